import PyProof.Rows.All
import Wide.All
import OpenK.AllK
import Wide.FinOn
import PySem.Challenge.RW_fw0014_01
set_option Elab.async false
set_option maxRecDepth 100000
open PySem PySem.W PyProof.Rows
namespace Fw
set_option maxRecDepth 100000 in
set_option maxHeartbeats 8000000 in
open_top hd for PySem.Challenge.rw_fw0014_01
end Fw

namespace Fw
open PySem PySem.W PyProof.Rows PySem.Spec

abbrev PG : Program := PySem.Challenge.rw_fw0014_01.row.prog
abbrev MD (w : World) : Model := model PG w
noncomputable abbrev KF (w : World) : Frag := hd.heap_39 w.params

def Sub (R h : Heap) : Prop := ∀ b o, R.get? b = some o → h.get? b = some o
theorem Sub.refl (h : Heap) : Sub h h := fun _ _ e => e
theorem Sub.trans {a b c : Heap} (x : Sub a b) (y : Sub b c) : Sub a c := fun _ _ e => y _ _ (x _ _ e)
theorem Sub.push (h : Heap) (o : Obj) : Sub h (h.push o) := fun _ _ e => Heap.get?_push_of_some o e

abbrev Led := List (Addr × (Obj → Prop))

structure St (R : Heap) (ld : Led) (h : Heap) : Prop where
  sub : Sub R h
  led : ∀ p ∈ ld, ∃ o, h.get? p.1 = some o ∧ p.2 o
  off : ∀ p ∈ ld, R.get? p.1 = none
  nd : (ld.map (·.1)).Nodup

theorem St.lt {R h : Heap} {led : Led} (S : St R led h) {p : Addr × (Obj → Prop)} (hp : p ∈ led) : p.1 < h.objs.size := by
  obtain ⟨o, e, _⟩ := S.led p hp
  exact Heap.lt_size e
theorem St.push {R h : Heap} {led : Led} (S : St R led h) {o : Obj} {P : Obj → Prop} (hp : P o) (hf : o.isFreed = false := by rfl) :
    St R ((h.objs.size, P) :: led) (h.push o) := by
  refine ⟨S.sub.trans (Sub.push h o), fun p hp' => ?_, fun p hp' => ?_, ?_⟩
  · rcases List.mem_cons.mp hp' with rfl | hp'
    · exact ⟨o, Heap.get?_push_size _ hf, hp⟩
    · obtain ⟨o', e, q⟩ := S.led p hp'
      exact ⟨o', Heap.get?_push_of_some _ e, q⟩
  · rcases List.mem_cons.mp hp' with rfl | hp'
    · cases q : R.get? h.objs.size with
      | none => rfl
      | some o' => exact absurd (Heap.lt_size (S.sub _ _ q)) (Nat.lt_irrefl _)
    · exact S.off p hp'
  · rw [List.map_cons]
    refine List.nodup_cons.mpr ⟨fun hm => ?_, S.nd⟩
    obtain ⟨p, hp', e⟩ := List.mem_map.mp hm
    exact absurd (S.lt hp') (by rw [e]; exact Nat.lt_irrefl _)
theorem St.ext {R h h' : Heap} {led : Led} (S : St R led h) (e : Sub h h') : St R led h' :=
  ⟨S.sub.trans e, fun p hp => let ⟨o, q, r⟩ := S.led p hp; ⟨o, e _ _ q, r⟩, S.off, S.nd⟩

theorem St.sub_led {R h : Heap} {led led' : Led} (S : St R led h) (hm : ∀ p ∈ led', p ∈ led) (nd : (led'.map (·.1)).Nodup) : St R led' h :=
  ⟨S.sub, fun p hp => S.led p (hm p hp), fun p hp => S.off p (hm p hp), nd⟩
theorem St.tail {R h : Heap} {led : Led} {p} (S : St R (p :: led) h) : St R led h :=
  S.sub_led (fun _ => List.mem_cons_of_mem _) (List.nodup_cons.mp S.nd).2
theorem St.tail2 {R h : Heap} {led : Led} {p q} (S : St R (p :: q :: led) h) : St R (p :: led) h :=
  S.sub_led (fun x hx => by rcases List.mem_cons.mp hx with rfl | hx; exact .head _; exact .tail _ (.tail _ hx))
    (by have := S.nd; simp only [List.map_cons, List.nodup_cons, List.mem_cons, not_or] at this ⊢; exact ⟨this.1.2, this.2.2⟩)

theorem St.swap {R h : Heap} {led : Led} {p q} (S : St R (p :: q :: led) h) : St R (q :: p :: led) h :=
  S.sub_led (fun x hx => by
      rcases List.mem_cons.mp hx with rfl | hx
      · exact .tail _ (.head _)
      · rcases List.mem_cons.mp hx with rfl | hx
        · exact .head _
        · exact .tail _ (.tail _ hx))
    (by have := S.nd; simp only [List.map_cons, List.nodup_cons, List.mem_cons, not_or] at this ⊢; exact ⟨⟨fun e => this.1.1 e.symm, this.2.1⟩, this.1.2, this.2.2⟩)
theorem St.perm {R h : Heap} {led led' : Led} (S : St R led h) (p : led'.Perm led) : St R led' h :=
  S.sub_led (fun _ hx => p.mem_iff.mp hx) ((p.map (·.1)).nodup_iff.mpr S.nd)

theorem St.head {R h : Heap} {led : Led} {a : Addr} {P : Obj → Prop} (S : St R ((a, P) :: led) h) : ∃ o, h.get? a = some o ∧ P o := S.led (a, P) (.head _)
theorem St.weak {R h : Heap} {led : Led} {a : Addr} {P P' : Obj → Prop} (S : St R ((a, P) :: led) h) (k : ∀ o, P o → P' o) : St R ((a, P') :: led) h :=
  ⟨S.sub, fun p hp => by
    rcases List.mem_cons.mp hp with rfl | hp
    · obtain ⟨o, e, q⟩ := S.head; exact ⟨o, e, k o q⟩
    · exact S.led p (.tail _ hp), fun p hp => by
    rcases List.mem_cons.mp hp with rfl | hp
    · exact S.off (a, P) (.head _)
    · exact S.off p (.tail _ hp), S.nd⟩

theorem St.ch {R h h' : Heap} {led : Led} {a : Addr} {P P' : Obj → Prop} (S : St R ((a, P) :: led) h) (hs : Heap.ExtBut a h h') (hn : ∃ o, h'.get? a = some o ∧ P' o) : St R ((a, P') :: led) h' := by
  have nd := S.nd
  simp only [List.map_cons, List.nodup_cons] at nd
  refine ⟨fun b o e => hs b o (fun q => ?_) (S.sub b o e), fun p hp => ?_, fun p hp => ?_, S.nd⟩
  · subst q; rw [S.off (b, P) (.head _)] at e; cases e
  · rcases List.mem_cons.mp hp with rfl | hp
    · exact hn
    · obtain ⟨o, e, q⟩ := S.led p (.tail _ hp)
      exact ⟨o, hs _ _ (fun z => nd.1 (z ▸ List.mem_map.mpr ⟨p, hp, rfl⟩)) e, q⟩
  · rcases List.mem_cons.mp hp with rfl | hp
    · exact S.off (a, P) (.head _)
    · exact S.off p (.tail _ hp)

/-- everything but the ledger `led'` is frozen -/
theorem St.freeze {R h : Heap} {led led' : Led} (S : St R led h) (hm : ∀ p ∈ led', p ∈ led) (nd : (led'.map (·.1)).Nodup) :
    ∃ R', Sub R R' ∧ St R' led' h ∧ ∀ b o, h.get? b = some o → b ∉ led'.map (·.1) → R'.get? b = some o := by
  refine ⟨hideAll h (led'.map (·.1)), fun b o e => ?_, ⟨fun b o e => of_hideAll _ e, fun p hp => S.led p (hm p hp), fun p hp => hideAll_none _ (List.mem_map.mpr ⟨p, hp, rfl⟩), nd⟩,
    fun b o e n => hideAll_get _ e n⟩
  refine hideAll_get _ (S.sub b o e) fun z => ?_
  obtain ⟨p, hp, rfl⟩ := List.mem_map.mp z
  rw [S.off p (hm p hp)] at e; cases e
/-- the head of the ledger is frozen -/
theorem St.freezeHead {R h : Heap} {led : Led} {a : Addr} {P : Obj → Prop} (S : St R ((a, P) :: led) h) :
    ∃ R', Sub R R' ∧ St R' led h ∧ (∃ o, R'.get? a = some o ∧ P o) ∧ ∀ b o, h.get? b = some o → b ∉ led.map (·.1) → R'.get? b = some o := by
  obtain ⟨R', h1, h2, h3⟩ := S.freeze (led' := led) (fun _ => List.mem_cons_of_mem _) (List.nodup_cons.mp S.nd).2
  obtain ⟨o, e, q⟩ := S.head
  exact ⟨R', h1, h2, ⟨o, h3 a o e (List.nodup_cons.mp S.nd).1, q⟩, h3⟩
theorem St.not_led {R h : Heap} {led : Led} (S : St R led h) {b : Addr} {o : Obj} (e : R.get? b = some o) : b ∉ led.map (·.1) := fun z => by
  obtain ⟨p, hp, rfl⟩ := List.mem_map.mp z
  rw [S.off p hp] at e; cases e
theorem St.not_led_new {R h h' : Heap} {led : Led} (S : St R led h) {b : Addr} (e : h.get? b = none) : b ∉ led.map (·.1) := fun z => by
  obtain ⟨p, hp, rfl⟩ := List.mem_map.mp z
  obtain ⟨o, q, _⟩ := S.led p hp
  rw [e] at q; cases q

/- what stands in a ledger -/
def LsO (items : Array Value) (o : Obj) : Prop := ∃ n, o = { cls := .type "list", data := .seq items n }
def NsO (m : Str → Option Value) (o : Obj) : Prop := ∃ es ep, o.data = .dict es ep ∧ StrKeys es ∧ ∀ name, nsFind es name = m name
def CeO (v : Option Value) (o : Obj) : Prop := o.data = .cell v
def LiO (l : Addr) (i : Nat) (o : Obj) : Prop := o.cls = .type "list_iterator" ∧ o.data = .fields #[.ref l, .int i 0]
def TgO (items : Array Value) (o : Obj) : Prop := ∃ d n, o = { cls := .ref 363, dict := some d, data := .seq items n }

theorem LsO.isList {h : Heap} {a : Addr} {items : Array Value} (x : ∃ o, h.get? a = some o ∧ LsO items o) : h.IsList a items :=
  let ⟨o, e, n, d⟩ := x; ⟨o, e, d ▸ rfl, n, d ▸ rfl⟩
theorem LsO.new (items : Array Value) : LsO items { cls := .type "list", data := .seq items } := ⟨0, rfl⟩
theorem NsO.ns {h : Heap} {a : Addr} {m} (x : ∃ o, h.get? a = some o ∧ NsO m o) : h.Ns a m :=
  let ⟨o, e, es, ep, d, k, f⟩ := x; ⟨o, es, ep, e, d, k, f⟩
theorem NsO.of {h : Heap} {a : Addr} {m} (x : h.Ns a m) : ∃ o, h.get? a = some o ∧ NsO m o :=
  let ⟨o, es, ep, e, d, k, f⟩ := x; ⟨o, e, es, ep, d, k, f⟩

/- all of a list -/
inductive All2 {α β : Type} (P : α → β → Prop) : List α → List β → Prop
  | nil : All2 P [] []
  | cons {a b as bs} : P a b → All2 P as bs → All2 P (a :: as) (b :: bs)
theorem All2.mono {α β : Type} {P Q : α → β → Prop} (k : ∀ a b, P a b → Q a b) : ∀ {as bs}, All2 P as bs → All2 Q as bs
  | _, _, .nil => .nil
  | _, _, .cons h r => .cons (k _ _ h) (r.mono k)
theorem All2.length {α β : Type} {P : α → β → Prop} : ∀ {as : List α} {bs : List β}, All2 P as bs → as.length = bs.length
  | _, _, .nil => rfl
  | _, _, .cons _ r => by rw [List.length_cons, List.length_cons, r.length]
theorem All2.snoc {α β : Type} {P : α → β → Prop} {a b} (h : P a b) : ∀ {as bs}, All2 P as bs → All2 P (as ++ [a]) (bs ++ [b])
  | _, _, .nil => .cons h .nil
  | _, _, .cons x r => .cons x (r.snoc h)
theorem All2.append {α β : Type} {P : α → β → Prop} {cs ds} (h : All2 P cs ds) : ∀ {as bs}, All2 P as bs → All2 P (as ++ cs) (bs ++ ds)
  | _, _, .nil => h
  | _, _, .cons x r => .cons x (h.append r)
theorem All2.get {α β : Type} {P : α → β → Prop} : ∀ {as bs}, All2 P as bs → ∀ {i : Nat} {b : β}, bs[i]? = some b → ∃ a, as[i]? = some a ∧ P a b
  | _, _, .cons x _, 0, _, e => by cases e; exact ⟨_, rfl, x⟩
  | _, _, .cons _ r, i + 1, _, e => r.get (i := i) (by simpa using e)

/- Arounds -/
structure Aok (n : Nat) (A : Around) : Prop where
  hd : A.handled = none
  dep : A.depth + n ≤ 900
  un : A.units + n ≤ 9000
abbrev AB : Around := { depth := 850, units := 8900 }
theorem wpAny_AB {α : Type} {M : Model} {A : Around} {t : Sem α} {Q : α → Shared → Prop} {E : Value → Shared → Prop} {s : Shared} (o : Aok 100 A) (h : wpAny M AB t Q E s) : wpAny M A t Q E s := by
  intro Γ p hΓ
  refine h Γ p ⟨hΓ.1.trans o.hd, Nat.le_trans hΓ.2.1 (by have := o.dep; show A.depth ≤ 850; omega), fun l e => ?_, fun l e => ?_, Nat.le_trans hΓ.2.2.2.2 (by have := o.un; show A.units ≤ 8900; omega)⟩
  · cases e
  · cases e

theorem KIn.up {w : World} {R h : Heap} (X : (KF w).In R) (S : Sub R h) : (KF w).In h := fun a o e => S _ _ (X a o e)
end Fw

namespace Fw
open PySem PySem.W PySem.W.X PyProof.Rows PySem.Spec

theorem Mem.sub {h h' : Heap} {news} (D : Mem h h' [] news) : Sub h h' := fun b o e => D.keep b o e (by rw [Bool.or_eq_true]; exact .inr rfl)
theorem Mem.got {h h' : Heap} {news} (D : Mem h h' [] news) {a : Addr} {o o' : Obj} (m : (a, o) ∈ news) (e : o = o') : h'.get? a = some o' ∧ h.get? a = none := e ▸ D.nw _ m

def emptyDict : Obj := { cls := .type "dict", data := .dict #[] }
def tagObj (d : Addr) (c : Int) (t1 : Tok) (x : Str) (t2 : Tok) : Obj := { cls := .ref 149, dict := some d, slots := #[some (.int c t1), some (.str x t2)] }
def tagsObj (d : Addr) (items : Array Value) (n : Nat) : Obj := { cls := .ref 363, dict := some d, data := .seq items n }

def MkTag (h : Heap) (g : Array GenState) (dr : Drawn) (os : OsState) (c : Int) (x : Str) (t1 t2 : Tok) (v : Value) (s' : Shared) : Prop :=
  ∃ h' tk' a d, s' = ⟨h', g, dr, tk', os⟩ ∧ v = .ref a ∧ Sub h h' ∧ (h'.get? a = some (tagObj d c t1 x t2) ∧ h.get? a = none) ∧ (h'.get? d = some emptyDict ∧ h.get? d = none)
theorem mkTag_close {h h' : Heap} {g dr os tk} {c : Int} {x : Str} {t1 t2 : Tok} {f a d : Addr} {o1 o2 o3 : Obj} (D : Mem h h' [] [(f, o1), (a, o2), (d, o3)]) (e2 : o2 = tagObj d c t1 x t2) (e3 : o3 = emptyDict) :
    MkTag h g dr os c x t1 t2 (.ref a) ⟨h', g, dr, tk, os⟩ :=
  ⟨h', tk, a, d, rfl, rfl, Mem.sub D, Mem.got D (.tail _ (.head _)) e2, Mem.got D (.tail _ (.tail _ (.head _))) e3⟩
local macro_rules | `(tactic| x_close) => `(tactic| ((rename Mem _ _ _ _ => DD); exact mkTag_close DD (by kernel_rfl) (by kernel_rfl)))
set_option maxHeartbeats 8000000 in
theorem mkTag_run (w : World) (h : Heap) (g : Array GenState) (dr : Drawn) (tk : Nat) (os : OsState) (X : (hd.heap_39 w.params).In h) (c : Int) (x : Str) (t1 t2 : Tok) :
   wpAny (model PySem.Challenge.rw_fw0014_01.row.prog w) AB (PySem.call (.ref 149) [.int c t1, .str x t2]) (MkTag h g dr os c x t1 t2) (fun _ _ => False) ⟨h, g, dr, tk, os⟩ := by
  x_run

def MkTags (h : Heap) (g : Array GenState) (dr : Drawn) (os : OsState) (u : Value) (v : Value) (s' : Shared) : Prop :=
  ∃ h' tk' a d, s' = ⟨h', g, dr, tk', os⟩ ∧ v = .ref a ∧ Sub h h' ∧ (h'.get? a = some (tagsObj d #[u] 1) ∧ h.get? a = none) ∧ (h'.get? d = some emptyDict ∧ h.get? d = none)
theorem mkTags_close {h h' : Heap} {g dr os tk} {u : Value} {a d : Addr} {o2 o3 : Obj} (D : Mem h h' [] [(a, o2), (d, o3)]) (e2 : o2 = tagsObj d #[u] 1) (e3 : o3 = emptyDict) :
    MkTags h g dr os u (.ref a) ⟨h', g, dr, tk, os⟩ :=
  ⟨h', tk, a, d, rfl, rfl, Mem.sub D, Mem.got D (.head _) e2, Mem.got D (.tail _ (.head _)) e3⟩
local macro_rules | `(tactic| x_close) => `(tactic| ((rename Mem _ _ _ _ => DD); exact mkTags_close DD (by kernel_rfl) (by kernel_rfl)))
set_option maxHeartbeats 8000000 in
theorem mkTags_run (w : World) (h : Heap) (g : Array GenState) (dr : Drawn) (tk : Nat) (os : OsState) (X : (hd.heap_39 w.params).In h) (l : Addr) (v : Value) (n : Nat) (hl : h.get? l = some {cls := .type "list", data := .seq #[v] n}) :
   wpAny (model PySem.Challenge.rw_fw0014_01.row.prog w) AB (PySem.call (.ref 363) [.ref l]) (MkTags h g dr os v) (fun _ _ => False) ⟨h, g, dr, tk, os⟩ := by
  x_run

def MkVal (h : Heap) (g : Array GenState) (dr : Drawn) (os : OsState) (u : Value) (v : Value) (s' : Shared) : Prop :=
  ∃ h' tk', s' = ⟨h', g, dr, tk', os⟩ ∧ v = u ∧ Sub h h'
theorem mkVal_close {h h' : Heap} {g dr os tk news} {u v : Value} (D : Mem h h' [] news) (e : v = u) : MkVal h g dr os u v ⟨h', g, dr, tk, os⟩ := ⟨h', tk, rfl, e, Mem.sub D⟩
theorem mkVal_close0 {h : Heap} {g dr os tk} {u v : Value} (e : v = u) : MkVal h g dr os u v ⟨h, g, dr, tk, os⟩ := ⟨h, tk, rfl, e, Sub.refl _⟩
local macro_rules | `(tactic| x_close) => `(tactic| first | exact mkVal_close0 (by kernel_rfl) | ((rename Mem _ _ _ _ => DD); exact mkVal_close DD (by kernel_rfl)))
set_option maxHeartbeats 8000000 in
theorem isTags_run (w : World) (h : Heap) (g : Array GenState) (dr : Drawn) (tk : Nat) (os : OsState) (_X : (hd.heap_39 w.params).In h) (l d : Addr) (vs : Array Value) (n : Nat) (hl : h.get? l = some {cls := .ref 363, dict := some d, data := .seq vs n}) :
   wpAny (model PySem.Challenge.rw_fw0014_01.row.prog w) AB (PySem.call (.builtin "isinstance") [.ref l, .ref 363]) (MkVal h g dr os (.bool true)) (fun _ _ => False) ⟨h, g, dr, tk, os⟩ := by
  x_run
set_option maxHeartbeats 8000000 in
theorem code_run (w : World) (h : Heap) (g : Array GenState) (dr : Drawn) (tk : Nat) (os : OsState) (X : (hd.heap_39 w.params).In h) (a d : Addr) (c : Int) (t1) (x : Str) (t2)
   (hl : h.get? a = some { cls := .ref 149, dict := some d, slots := #[some (.int c t1), some (.str x t2)] }) (_hdd : h.get? d = some { cls := .type "dict", data := .dict #[] }) :
   wpAny (model PySem.Challenge.rw_fw0014_01.row.prog w) AB (PySem.call (.builtin "property.__get__") [.ref 95, .ref a, .ref 149]) (MkVal h g dr os (.int c t1)) (fun _ _ => False) ⟨h, g, dr, tk, os⟩ := by
  x_run
set_option maxHeartbeats 8000000 in
theorem value_run (w : World) (h : Heap) (g : Array GenState) (dr : Drawn) (tk : Nat) (os : OsState) (X : (hd.heap_39 w.params).In h) (a d : Addr) (c : Int) (t1) (x : Str) (t2)
   (hl : h.get? a = some { cls := .ref 149, dict := some d, slots := #[some (.int c t1), some (.str x t2)] }) (_hdd : h.get? d = some { cls := .type "dict", data := .dict #[] }) :
   wpAny (model PySem.Challenge.rw_fw0014_01.row.prog w) AB (PySem.call (.builtin "property.__get__") [.ref 103, .ref a, .ref 149]) (MkVal h g dr os (.str x t2)) (fun _ _ => False) ⟨h, g, dr, tk, os⟩ := by
  x_run
set_option maxHeartbeats 8000000 in
theorem ucode_run (w : World) (h : Heap) (g : Array GenState) (dr : Drawn) (tk : Nat) (os : OsState) (X : (hd.heap_39 w.params).In h) (a d : Addr) (c : Int) (t1) (x : Str) (t2)
   (hl : h.get? a = some { cls := .ref 149, dict := some d, slots := #[some (.int c t1), some (.str x t2)] }) (_hdd : h.get? d = some { cls := .type "dict", data := .dict #[] }) :
   wpAny (model PySem.Challenge.rw_fw0014_01.row.prog w) AB (PySem.call (.builtin "member_descriptor.__get__") [.ref 150, .ref a, .ref 149]) (MkVal h g dr os (.int c t1)) (fun _ _ => False) ⟨h, g, dr, tk, os⟩ := by
  x_run
end Fw

namespace Fw
open PySem PySem.W PySem.W.X PyProof.Rows PySem.Spec PySem.Calls

/-- what stands and stays: the text's own objects, the globals, the builtins -/
structure Stat (w : World) (mg mb : Str → Option Value) (R : Heap) : Prop where
  K : (KF w).In R
  lim : R.NoLimit
  g : R.Ns mainGlobals mg
  b : R.Ns builtinsNs mb
  bb : ∀ x : Str, x ≠ ("__name__" : Str) → mb x = bootBuiltins x
  own : OwnCls "DXFStructureError" 44 [.type "Exception", .type "BaseException", .type "object"] "Exception.__new__" mg R
  bm : ∃ bm ob, mg "__builtins__" = some (.ref bm) ∧ bm ≠ builtinsNs ∧ R.get? bm = some ob ∧ ob.cls = .type "module" ∧ ob.dict = some builtinsNs ∧ ob.data = .plain
theorem Stat.up {w mg mb} {R h : Heap} (S : Stat w mg mb R) (k : Sub R h) : Stat w mg mb h :=
  ⟨KIn.up S.K k, S.lim.keeps k, S.g.keeps k, S.b.keeps k, S.bb, S.own.keeps k, let ⟨bm, ob, a, b, c, r⟩ := S.bm; ⟨bm, ob, a, b, k _ _ c, r⟩⟩

theorem Aok.in1 {n : Nat} {A : Around} (o : Aok (n + 20) A) : Aok n A.in1 := ⟨o.hd, by have := o.dep; show A.depth + n ≤ 900; omega, by have := o.un; show A.units + 1 + n ≤ 9000; omega⟩
section
variable {w : World} {mg mb : Str → Option Value} {A : Around} {E : Value → Shared → Prop} {R h : Heap} {g : Array GenState} {dr : Drawn} {tk : Nat} {os : OsState}

theorem lookup_mem {α : Type} : ∀ {l : List (Str × α)} {n : Str} {c : α}, l.lookup n = some c → (n, c) ∈ l
  | [], _, _, e => by cases e
  | (m, x) :: l, n, c, e => by
    rw [List.lookup_cons] at e
    split at e
    · rename_i q; cases e; rw [eq_of_beq q]; exact .head _
    · exact .tail _ (lookup_mem e)
theorem kinds_of {binds : List (Str × Value)} {names : List (Str × NameKind)} {cs : List (Str × Addr)}
    (hkind : (binds.all fun x => names.lookup x.1 == some .local || (names.lookup x.1 == some .cell && (cs.lookup x.1).isSome)) = true) :
    ∀ x ∈ binds, names.lookup x.1 = some .local ∨ (names.lookup x.1 = some .cell ∧ (cs.lookup x.1).isSome = true) := by
  intro x hx
  have z := List.all_eq_true.mp hkind x hx
  rw [Bool.or_eq_true, Bool.and_eq_true] at z
  rcases z with z | z
  · exact .inl (eq_of_beq z)
  · exact .inr ⟨eq_of_beq z.1, z.2⟩
noncomputable def fnAt (w : World) (a : Addr) : FuncData := match (KF w).lookup a with
  | some ⟨_, _, .func fd, _⟩ => fd
  | _ => default
noncomputable def envAt (w : World) (f L : Addr) : Env := callEnvC (fnAt w f) L f
def isFnO (o : Option Obj) : Bool := match o with
  | some ⟨_, _, .func _, _⟩ => true
  | _ => false
theorem fn_at {w : World} {h : Heap} (X : (KF w).In h) {f : Addr} (e : isFnO ((KF w).lookup f) = true) : ∃ o, h.get? f = some o ∧ o.data = .func (fnAt w f) := by
  unfold fnAt
  cases q : (KF w).lookup f with
  | none => rw [q] at e; cases e
  | some o =>
    obtain ⟨c, d, dt, sl⟩ := o
    cases dt <;> first | (rw [q] at e; cases e; done) | exact ⟨_, X _ _ q, rfl⟩
theorem Aok.deeper {n : Nat} {A : Around} (o : Aok (n + 20) A) (env : Env) : Aok n (A.deeper env) :=
  ⟨o.hd, by have := o.dep; show A.depth + 1 + n ≤ 900; omega, by have := o.un; show A.units + 3 + n ≤ 9000; omega⟩
theorem Aok.less {m : Nat} {A : Around} (o : Aok m A) (n : Nat) (h : n ≤ m) : Aok n A := ⟨o.hd, by have := o.dep; omega, by have := o.un; omega⟩

theorem callK {n : Nat} {f : Addr} {body : List Stmt} {vals : List Value} {binds : List (Str × Value)} {Q : Value → Shared → Prop}
    (a : Aok (n + 20) A) (T : Stat w mg mb h) (hf : isFnO ((KF w).lookup f) = true) (hcd : codeIn (KF w) (fnAt w f).code (fnAt w f).qualname = true)
    (hbody : (fnAt w f).body = .stmts body) (hbind : bindArgs (fnAt w f) ⟨vals, []⟩ = pure binds) (hclo : (fnAt w f).closure = [])
    (hkind : (binds.all fun x => (fnAt w f).scope.names.lookup x.1 == some .local || ((fnAt w f).scope.names.lookup x.1 == some .cell && ((cellsFrom (h.objs.size + 1) (fnAt w f).scope.names []).lookup x.1).isSome)) = true)
    (hco : (fnAt w f).scope.isCoroutine = false) (hgen : (fnAt w f).scope.isGenerator = false) (hk : (fnAt w f).scope.kind = .function)
    (hb : ∀ h₁ tk₁ L, h.objs.size ≤ L → Sub h h₁ → h₁.Ns L (bindL (envAt w f L).kindOf binds fun _ => none) → h.get? L = none →
      (∀ n c, (envAt w f L).cells.lookup n = some c → h₁.IsCell c (bindC (envAt w f L).kindOf binds (fun _ => none) n) ∧ h.get? c = none) →
      ((envAt w f L).cells.Pairwise fun x y => x.2 ≠ y.2) → (∀ n c, (n, c) ∈ (envAt w f L).cells → L < c) → Aok n (A.deeper (envAt w f L)) →
      wpAny (MD w) (A.deeper (envAt w f L)) (execs body (envAt w f L)) (fun f s' => Q (match f with | .ret v => v | _ => .none) s')
        (fun e s' => wpAny (MD w) (A.deeper (envAt w f L)) (leaving (envAt w f L) e) (fun _ s'' => E e s'') (fun e' s'' => E e' s'') s') ⟨h₁, g, dr, tk₁, os⟩) :
    wpAny (MD w) A (PySem.call (.ref f) vals) Q E ⟨h, g, dr, tk, os⟩ := by
  obtain ⟨o, ho, hd⟩ := fn_at T.K hf
  refine wpAny_call ?_
  refine codeAny_call_cells (by have := a.dep; show A.depth < recursionLimit; unfold recursionLimit; omega) ho hd T.lim (codeRec_of T.K hcd) hbody hbind hclo (kinds_of hkind) (fun s₁ I => ?_) hco hgen hk
  obtain ⟨⟨⟨h₁, tk₁, rfl⟩, hns, hkeep, hfr⟩, hcell, hap, hab⟩ := I
  have none_of : ∀ b, h.objs.size ≤ b → h.get? b = none := fun b hb => by
    cases q : h.get? b with
    | none => rfl
    | some o => exact absurd (Heap.lt_size q) (Nat.not_lt.mpr hb)
  refine hb h₁ tk₁ h.objs.size (Nat.le_refl _) hkeep hns (none_of _ (Nat.le_refl _)) (fun n c e => ⟨hcell n c e, none_of _ ?_⟩) hap hab (a.deeper _)
  exact Nat.le_of_lt (hab n c (lookup_mem e))

theorem tag_inst {a d : Addr} {c : Int} {t1 x t2} (e1 : h.get? a = some (tagObj d c t1 x t2)) (e2 : h.get? d = some emptyDict) : PySem.W.InstAt h a (tagObj d c t1 x t2) 149 (some emptyDict) :=
  ⟨e1, rfl, rfl, e2⟩

theorem attr_code {a d : Addr} {c : Int} {t1 x t2} {ex : Bool} {Q : Value → Shared → Prop} (o : Aok 120 A) (X : (KF w).In h) (e1 : h.get? a = some (tagObj d c t1 x t2)) (e2 : h.get? d = some emptyDict)
    (q : ∀ h' tk', Sub h h' → Q (.int c t1) ⟨h', g, dr, tk', os⟩) : wpAny (MD w) A (getAttr (.ref a) "code" ex) Q E ⟨h, g, dr, tk, os⟩ := by
  refine get_bind X (tag_inst e1 e2) (by kernel_rfl) (g := .builtin "property.__get__") (a := .ref 95) (findObj_data (by kernel_rfl) (by kernel_rfl) (by kernel_rfl) (by kernel_rfl)) (by kernel_rfl) ?_
  refine wpAny_mono (wpAny_AB o.in1 (code_run w h g dr (tk + 1) os X a d c t1 x t2 e1 e2)) ?_ fun _ _ z => z.elim
  rintro v s' ⟨h', tk', rfl, rfl, k⟩
  exact handed_on rfl (q h' tk' k)
theorem attr_value {a d : Addr} {c : Int} {t1 x t2} {ex : Bool} {Q : Value → Shared → Prop} (o : Aok 120 A) (X : (KF w).In h) (e1 : h.get? a = some (tagObj d c t1 x t2)) (e2 : h.get? d = some emptyDict)
    (q : ∀ h' tk', Sub h h' → Q (.str x t2) ⟨h', g, dr, tk', os⟩) : wpAny (MD w) A (getAttr (.ref a) "value" ex) Q E ⟨h, g, dr, tk, os⟩ := by
  refine get_bind X (tag_inst e1 e2) (by kernel_rfl) (g := .builtin "property.__get__") (a := .ref 103) (findObj_data (by kernel_rfl) (by kernel_rfl) (by kernel_rfl) (by kernel_rfl)) (by kernel_rfl) ?_
  refine wpAny_mono (wpAny_AB o.in1 (value_run w h g dr (tk + 1) os X a d c t1 x t2 e1 e2)) ?_ fun _ _ z => z.elim
  rintro v s' ⟨h', tk', rfl, rfl, k⟩
  exact handed_on rfl (q h' tk' k)
theorem attr_ucode {a d : Addr} {c : Int} {t1 x t2} {ex : Bool} {Q : Value → Shared → Prop} (o : Aok 120 A) (X : (KF w).In h) (e1 : h.get? a = some (tagObj d c t1 x t2)) (e2 : h.get? d = some emptyDict)
    (q : ∀ h' tk', Sub h h' → Q (.int c t1) ⟨h', g, dr, tk', os⟩) : wpAny (MD w) A (getAttr (.ref a) "_code" ex) Q E ⟨h, g, dr, tk, os⟩ := by
  refine get_bind X (tag_inst e1 e2) (by kernel_rfl) (g := .builtin "member_descriptor.__get__") (a := .ref 150) (findObj_data (by kernel_rfl) (by kernel_rfl) (by kernel_rfl) (by kernel_rfl)) (by kernel_rfl) ?_
  refine wpAny_mono (wpAny_AB o.in1 (ucode_run w h g dr (tk + 1) os X a d c t1 x t2 e1 e2)) ?_ fun _ _ z => z.elim
  rintro v s' ⟨h', tk', rfl, rfl, k⟩
  exact handed_on rfl (q h' tk' k)

theorem shaped_pair (c : Int) {x : Str} (hx : PyData.strOk x = true) : SeqAt.shaped (.tuple [.int c, .str x]) = true := by
  simp [SeqAt.shaped, PyData.canLay0, PyData.canLayAll0, PyData.depth, PyData.depthAll, hx]
theorem ld_local {env : Env} {x : Str} {pos : Pos} {m} {v : Value} {s : Shared} {Q : Value → Shared → Prop} (hl : env.kindOf x = some .local) (hn : s.heap.Ns env.locals m) (hv : m x = some v) (hq : Q v s)
    (hk : env.scope.kind = .function := by rfl) (hd : (x == ("__debug__" : Str)) = false := by decide) : wpAny (MD w) A (eval (.Name x pos) env) Q E s :=
  wpAny_Name (wpAny_loadName_local hk hl hn hv hq) hd

set_option maxHeartbeats 1000000 in
theorem tag_eq {a d b : Addr} {c : Int} {t1 x t2} {c' : Int} {t1' x' t2' n} {Q : Value → Shared → Prop} (o : Aok 150 A) (T : Stat w mg mb h) (e1 : h.get? a = some (tagObj d c t1 x t2)) (e2 : h.get? d = some emptyDict)
    (e3 : h.get? b = some { cls := .type "tuple", data := .seq #[.int c' t1', .str x' t2'] n }) (sx : PyData.strOk x = true) (sx' : PyData.strOk x' = true)
    (q : ∀ h' tk', Sub h h' → Q (.bool (decide (c = c' ∧ x = x'))) ⟨h', g, dr, tk', os⟩) : wpAny (MD w) A (PySem.call (.ref 124) [.ref a, .ref b]) Q E ⟨h, g, dr, tk, os⟩ := by
  refine callK (n := 120) (by exact o.less _ (by decide)) T (by kernel_rfl) (by kernel_rfl) (by with_unfolding_all rfl) (binds := [("self", .ref a), ("other", .ref b)]) (by kernel_rfl) (by kernel_rfl) (by kernel_rfl) (by kernel_rfl) (by kernel_rfl) (by kernel_rfl) ?_
  intro h₁ tk₁ L _ k hn hnone _ _ _ od
  refine wpAny_execs_cons ?_
  refine wpAny_Return_some ?_
  refine wpAny_Compare1 ?_
  refine wpAny_Tuple_spliced ?_
  refine Calls.spliced_cons ?_
  refine Attribute_Name_ ?_
  refine ld_local (by kernel_rfl) hn (v := .ref a) (by kernel_rfl) ?_
  refine attr_ucode (od.less 120 (by decide)) (KIn.up T.K k) (k _ _ e1) (k _ _ e2) fun h₂ tk₂ k₂ => ?_
  refine Calls.spliced_cons ?_
  refine Attribute_Name_ ?_
  refine ld_local (by kernel_rfl) (hn.keeps k₂) (v := .ref a) (by kernel_rfl) ?_
  refine attr_value (od.less 120 (by decide)) (KIn.up T.K (k.trans k₂)) (k₂ _ _ (k _ _ e1)) (k₂ _ _ (k _ _ e2)) fun h₃ tk₃ k₃ => ?_
  refine Calls.spliced_nil ⟨Nat.le_of_ble_eq_true rfl, ?_⟩
  have k3 : Sub h h₃ := (k.trans k₂).trans k₃
  have k4 := k3.trans (Sub.push h₃ { cls := .type "tuple", data := .seq #[.int c t1, .str x t2] })
  refine ld_local (by kernel_rfl) ((hn.keeps (k₂.trans k₃)).keeps (Sub.push h₃ _)) (v := .ref b) (by kernel_rfl) ?_
  refine eq_dataH (da := .tuple [.int c, .str x]) (db := .tuple [.int c', .str x']) (Reads.tuple (Heap.get?_push_size _ rfl) rfl rfl (.cons (.int _ _) (.cons (.str _ _) .nil))) (Reads.tuple (k4 _ _ e3) rfl rfl (.cons (.int _ _) (.cons (.str _ _) .nil)))
    (shaped_pair _ sx) (shaped_pair _ sx') (by have := od.un; show _ < 9900; omega) ?_
  have e : PyData.eqv (.tuple [.int c, .str x]) (.tuple [.int c', .str x']) = decide (c = c' ∧ x = x') := by
    simp only [PyData.eqv, PyData.eqvAll, Bool.and_true]
    by_cases h1 : c = c' <;> by_cases h2 : x = x' <;> simp [h1, h2]
  rw [e]
  exact q _ _ k4
end
end Fw

namespace Fw
open PySem PySem.W PySem.W.X PyProof.Rows PySem.Spec PySem.Calls

def MkIter (h : Heap) (g : Array GenState) (dr : Drawn) (os : OsState) (l : Addr) (v : Value) (s' : Shared) : Prop :=
  ∃ h' tk' a, s' = ⟨h', g, dr, tk', os⟩ ∧ v = .ref a ∧ Sub h h' ∧ h'.get? a = some { cls := .type "list_iterator", data := .fields #[.ref l, .int 0 0] } ∧ h.get? a = none
theorem mkIter_close {h h' : Heap} {g dr os tk} {l a : Addr} {o : Obj} (D : Mem h h' [] [(a, o)]) (e : o = { cls := .type "list_iterator", data := .fields #[.ref l, .int 0 0] }) : MkIter h g dr os l (.ref a) ⟨h', g, dr, tk, os⟩ :=
  ⟨h', tk, a, rfl, rfl, Mem.sub D, Mem.got D (.head _) e⟩
local macro_rules | `(tactic| x_close) => `(tactic| ((rename Mem _ _ _ _ => DD); exact mkIter_close DD (by kernel_rfl)))
set_option maxHeartbeats 8000000 in
theorem tagsIter_run (w : World) (h : Heap) (g : Array GenState) (dr : Drawn) (tk : Nat) (os : OsState) (X : (hd.heap_39 w.params).In h) (l d : Addr) (vs : Array Value) (n : Nat) (hl : h.get? l = some {cls := .ref 363, dict := some d, data := .seq vs n}) :
   wpAny (model PySem.Challenge.rw_fw0014_01.row.prog w) AB (PySem.call (.builtin "list.__iter__") [.ref l]) (MkIter h g dr os l) (fun _ _ => False) ⟨h, g, dr, tk, os⟩ := by
  x_run
local macro_rules | `(tactic| x_close) => `(tactic| first | exact mkVal_close0 (by kernel_rfl) | ((rename Mem _ _ _ _ => DD); exact mkVal_close DD (by kernel_rfl)))
set_option maxHeartbeats 8000000 in
theorem tagsGet0_run (w : World) (h : Heap) (g : Array GenState) (dr : Drawn) (tk : Nat) (os : OsState) (X : (hd.heap_39 w.params).In h) (l d : Addr) (v : Value) (vs : List Value) (n : Nat) (t : Tok) (hl : h.get? l = some {cls := .ref 363, dict := some d, data := .seq (v :: vs).toArray n}) :
   wpAny (model PySem.Challenge.rw_fw0014_01.row.prog w) AB (PySem.call (.builtin "list.__getitem__") [.ref l, .int 0 t]) (MkVal h g dr os v) (fun _ _ => False) ⟨h, g, dr, tk, os⟩ := by
  x_run
set_option maxHeartbeats 8000000 in
theorem tagsGet1_run (w : World) (h : Heap) (g : Array GenState) (dr : Drawn) (tk : Nat) (os : OsState) (X : (hd.heap_39 w.params).In h) (l d : Addr) (v u : Value) (vs : List Value) (n : Nat) (t : Tok) (hl : h.get? l = some {cls := .ref 363, dict := some d, data := .seq (u :: v :: vs).toArray n}) :
   wpAny (model PySem.Challenge.rw_fw0014_01.row.prog w) AB (PySem.call (.builtin "list.__getitem__") [.ref l, .int 1 t]) (MkVal h g dr os v) (fun _ _ => False) ⟨h, g, dr, tk, os⟩ := by
  x_run
def MkLen (h : Heap) (g : Array GenState) (dr : Drawn) (os : OsState) (n : Nat) (v : Value) (s' : Shared) : Prop :=
  ∃ h' tk' t, s' = ⟨h', g, dr, tk', os⟩ ∧ v = .int n t ∧ Sub h h'
theorem mkLen_close0 {h : Heap} {g dr os tk t} {n : Nat} {i : Int} (e : i = n) : MkLen h g dr os n (.int i t) ⟨h, g, dr, tk, os⟩ := ⟨h, tk, t, rfl, by rw [e], Sub.refl _⟩
local macro_rules | `(tactic| x_close) => `(tactic| exact mkLen_close0 (by kernel_rfl))
set_option maxHeartbeats 8000000 in
theorem tagsLen_run (w : World) (h : Heap) (g : Array GenState) (dr : Drawn) (tk : Nat) (os : OsState) (X : (hd.heap_39 w.params).In h) (l d : Addr) (vs : List Value) (n : Nat) (hsz : vs.length < 1000) (hl : h.get? l = some {cls := .ref 363, dict := some d, data := .seq vs.toArray n}) :
   wpAny (model PySem.Challenge.rw_fw0014_01.row.prog w) AB (PySem.call (.builtin "len") [.ref l]) (MkLen h g dr os vs.length) (fun _ _ => False) ⟨h, g, dr, tk, os⟩ := by
  x_run
end Fw

namespace Fw
open PySem PySem.W PySem.W.X PyProof.Rows PySem.Spec PySem.Calls

section
variable {w : World} {mg mb : Str → Option Value} {A : Around} {E : Value → Shared → Prop} {R h : Heap} {g : Array GenState} {dr : Drawn} {tk : Nat} {os : OsState}

theorem tags_inst {a d : Addr} {vs : Array Value} {n : Nat} (e1 : h.get? a = some (tagsObj d vs n)) (e2 : h.get? d = some emptyDict) : PySem.W.InstAt h a (tagsObj d vs n) 363 (some emptyDict) :=
  ⟨e1, rfl, rfl, e2⟩

/-- a slot of the class list, found along the line of Tags -/
theorem tags_special {a d : Addr} {vs : Array Value} {n : Nat} {name : Str} {id : String} {M : Model} (X : (KF w).In h) (e1 : h.get? a = some (tagsObj d vs n)) (e2 : h.get? d = some emptyDict)
    (e : findIn (KF w) (.ref 363) name = some (some (.builtin id))) : Looks M h (specialOf (.ref a) name) (some (.builtin id)) :=
  (InstAt.type (tags_inst e1 e2)).andThen (looks_findIn X e)

theorem pyIter_tags {a d : Addr} {vs : Array Value} {n : Nat} {Q : Value → Shared → Prop} (o : Aok 120 A) (X : (KF w).In h) (e1 : h.get? a = some (tagsObj d vs n)) (e2 : h.get? d = some emptyDict)
    (q : ∀ h' tk' i, Sub h h' → h'.get? i = some { cls := .type "list_iterator", data := .fields #[.ref a, .int 0 0] } → h.get? i = none → Q (.ref i) ⟨h', g, dr, tk', os⟩) :
    wpAny (MD w) A (pyIter (.ref a)) Q E ⟨h, g, dr, tk, os⟩ := by
  have L := tags_special (M := MD w) (name := Str.ofString "__iter__") (id := "list.__iter__") X e1 e2 (by kernel_rfl)
  unfold pyIter
  refine wpAny_bind (L.at ?_)
  have fin : wpAny (MD w) A (PySem.call (.builtin "list.__iter__") [.ref a]) (fun it s' => wpAny (MD w) A (specialOf it "__next__") (fun r s'' => ∃ f, r = some f ∧ Q it s'') E s') E ⟨h, g, dr, tk, os⟩ := by
    refine wpAny_mono (wpAny_AB (o.less 100 (by decide)) (tagsIter_run w h g dr tk os X a d vs n e1)) ?_ fun _ _ z => z.elim
    rintro v s' ⟨h', tk', i, rfl, rfl, k, ei, en⟩
    exact wpAny_specialOf (T := "list_iterator") ⟨_, ei, rfl⟩ slot_listiter_next.lookup ⟨_, rfl, q h' tk' i k ei en⟩
  simp only [callSpecialIfBoundUnlessNone?, bindSpecialIfBound?]
  refine wpAny_bind (wpAny_holding (wpAny_bind (wpAny_bind (L.at (wpAny_bind (wpAny_askSetting (wpAny_ite ?_)))))))
  have fin' : wpAny (MD w) A (PySem.call (.builtin "list.__iter__") [.ref a] >>= fun v => (pure (some v) : Sem (Option Value))) (fun r s' => ∃ it, r = some it ∧ wpAny (MD w) A (specialOf it "__next__") (fun r s'' => ∃ f, r = some f ∧ Q it s'') E s') E ⟨h, g, dr, tk, os⟩ :=
    wpAny_bind (wpAny_mono fin (fun v s' z => wpAny_pure ⟨v, rfl, z⟩) fun _ _ z => z)
  have last : ∀ (r : Option Value) (s' : Shared), (∃ it, r = some it ∧ wpAny (MD w) A (specialOf it "__next__") (fun r s'' => ∃ f, r = some f ∧ Q it s'') E s') → wpAny (MD w) A (match r with
      | some it => do
        match ← specialOf it "__next__" with
        | none => do
          let _ ← rule "iter.non-iterator"
          raiseError "TypeError" s!"iter() returned non-iterator of type '{← typeNameOf it}'"
        | some _ => pure it
      | none => do
        match ← bindSpecialIfBound? (.ref a) "__getitem__" with
        | none => do
          let _ ← rule "iter.not-iterable"
          raiseError "TypeError" s!"'{← typeNameOf (.ref a)}' object is not iterable"
        | some _ => do
          let _ ← rule "iter.getitem-fallback"
          newFields "iterator" [.ref a, ← mkInt 0]) Q E s' := by
    rintro r s' ⟨it, rfl, z⟩
    refine wpAny_bind (wpAny_mono z (fun r s'' z => ?_) fun _ _ z => z)
    obtain ⟨f, rfl, z⟩ := z
    exact wpAny_pure z
  have bnd := slot_list_iter.bind (.ref a)
  split
  · rw [bnd]
    exact wpAny_bind (wpAny_pure (wpAny_pure (by exact wpAny_mono fin' (fun r s' z => last r s' z) fun _ _ z => z)))
  · rw [bnd]
    exact wpAny_tryCatch (wpAny_bind (wpAny_pure (wpAny_pure (by exact wpAny_mono fin' (fun r s' z => last r s' z) fun _ _ z => z))))
end
end Fw

namespace Fw
open PySem PySem.W PySem.W.X PyProof.Rows PySem.Spec PySem.Calls

section
variable {w : World} {mg mb : Str → Option Value} {A : Around} {E : Value → Shared → Prop} {R h : Heap} {g : Array GenState} {dr : Drawn} {tk : Nat} {os : OsState} {env : Env}

theorem Call_append_any {o elt : Expr} {apos pos : Pos} {s : Shared} {Q : Value → Shared → Prop}
    (h : wpAny (MD w) A (eval o env) (fun ov s₁ => (∀ pl Q', Q' (.builtin "list.append", [ov]) s₁ → wpAny (MD w) A (getMethod ov "append" pl) Q' E s₁) ∧
      wpAny (MD w) A (eval elt env) (fun y s₂ => wpAny (MD w) A (PySem.call (.builtin "list.append") [ov, y]) Q E s₂) E s₁) E s)
    (hbase : attributeBase o "append" env (eval o env) = eval o env) (hline : (apos.endLine == pos.line) = true)
    (htrees : backTo pos (starEach [elt] env) = [(false, eval elt env)]) :
    wpAny (MD w) A (eval (.Call (.Attribute o "append" apos) [elt] [] pos) env) Q E s := by
  rw [arm_eval_Call, hbase]
  refine wpAny_bind (wpAny_mono h (fun ov s₁ h₁ => ?_) fun _ _ e => e)
  obtain ⟨hm, hc⟩ := h₁
  refine wpAny_bind (wpAny_standAt ?_)
  have hform : methodCallForm (([elt] : List Expr).length + ([] : List Keyword).length) (backTo pos (starEach [elt] env)) (backToKw pos (keywordEach [] env)) = true := by rw [htrees]; rfl
  have hpos : methodCallPos true o env apos pos = pure pos := by unfold methodCallPos; simp [hline]
  unfold methodCall
  rw [hform]
  refine wpAny_bind (wpAny_holding (hm _ _ ?_))
  refine wpAny_bind (wpAny_of_eq hpos ?_)
  rw [htrees]
  exact Calls.callWith_builtin rfl (Calls.evalArgs_plain (Calls.spliced_cons (wpAny_mono hc (fun y s₂ h₂ => Calls.spliced_nil h₂) fun _ _ e => e)))

theorem getMethod_tags {a d : Addr} {vs : Array Value} {n : Nat} {pl : Sem Bool} {Q : Value × List Value → Shared → Prop} (X : (KF w).In h) (e1 : h.get? a = some (tagsObj d vs n)) (e2 : h.get? d = some emptyDict)
    (q : Q (.builtin "list.append", [.ref a]) ⟨h, g, dr, tk, os⟩) : wpAny (MD w) A (getMethod (.ref a) "append" pl) Q E ⟨h, g, dr, tk, os⟩ := by
  have L1 := tags_special (M := MD w) (name := Str.ofString "__getattribute__") (id := "list.__getattribute__") X e1 e2 (by kernel_rfl)
  have L2 : Looks (MD w) h (specialOf (.ref a) "__getattr__") none := (InstAt.type (tags_inst e1 e2)).andThen (looks_findIn X (by kernel_rfl))
  have L3 := tags_special (M := MD w) (name := Str.ofString "append") (id := "list.append") X e1 e2 (by kernel_rfl)
  have hcan : (Manifest.canonical "list.__getattribute__" != "object.__getattribute__") = false := by kernel_rfl
  unfold getMethod
  refine wpAny_bind (L1.at ?_)
  dsimp only
  rw [hcan, if_neg (by decide)]
  refine wpAny_bind (L2.at ?_)
  refine wpAny_bind (L3.at ?_)
  refine wpAny_bind (wpAny_of_eq PySem.F.type_list_append ?_)
  rw [if_neg (by decide +kernel)]
  refine wpAny_bind (wpAny_loadPart e1 ?_)
  refine wpAny_bind (wpAny_bind (wpAny_loadPart e2 ?_))
  refine wpAny_of_eq (a := none) (by rfl) ?_
  exact wpAny_bind (wpAny_rule (wpAny_pure q))

theorem check_sub {i owner n : String} {self : Value} {rest : List Value} {s : Shared} {Q : Unit → Shared → Prop}
    (hk : builtinKind i = some .method ∨ builtinKind i = some .slot) (hs : splitId i = some (owner, n)) (hi : Looks (MD w) s.heap (isInstance self (.type owner)) true) (ha : argsOk i ⟨self :: rest, []⟩) (q : Q () s) :
    wpAny (MD w) A (checkBuiltinCall i ⟨self :: rest, []⟩) Q E s := by
  rcases hk with hk | hk
  · simp only [checkBuiltinCall, hk, hs]
    refine wpAny_bind (hi.here ?_)
    simp only [Bool.not_true, Bool.false_eq_true, if_false]
    cases hsig : Manifest.signature? i with
    | none => exact wpAny_pure q
    | some sig =>
      simp only [argsOk, hsig] at ha
      have h2 : Bind.checkArgs i sig ⟨self :: rest, []⟩ = pure () := ha
      show wpAny _ A (Bind.checkArgs i sig ⟨self :: rest, []⟩) Q E s
      rw [h2]; exact wpAny_pure q
  · simp only [checkBuiltinCall, hk, hs]
    refine wpAny_bind (hi.here ?_)
    simp only [Bool.not_true, Bool.false_eq_true, if_false]
    cases hsig : Manifest.signature? i with
    | none => exact wpAny_pure q
    | some sig =>
      simp only [argsOk, hsig] at ha
      have h2 : Bind.checkArgs i sig ⟨self :: rest, []⟩ = pure () := ha
      show wpAny _ A (Bind.checkArgs i sig ⟨self :: rest, []⟩) Q E s
      rw [h2]; exact wpAny_pure q
theorem tags_isList {a d : Addr} {vs : Array Value} {n : Nat} (X : (KF w).In h) (e1 : h.get? a = some (tagsObj d vs n)) (e2 : h.get? d = some emptyDict) : Looks (MD w) h (isInstance (.ref a) (.type "list")) true :=
  (InstAt.type (tags_inst e1 e2)).andThen (looks_subIn X (by kernel_rfl))

theorem list_append_ls {l : Addr} {its : Array Value} {v : Value} {Q : Value → Shared → Prop} (e : ∃ o, h.get? l = some o ∧ LsO its o) (q : ∀ h', Heap.SameBut l h h' → (∃ o, h'.get? l = some o ∧ LsO (its.push v) o) → Q .none ⟨h', g, dr, tk, os⟩) (hsz : its.size ≤ 1000) :
    wpAny (MD w) A (PySem.call (.builtin "list.append") [.ref l, v]) Q E ⟨h, g, dr, tk, os⟩ := by
  have hl := LsO.isList e
  obtain ⟨_, e, n, rfl⟩ := e
  refine wpAny_call_entry slot_list_append hl.typeIs entry_list_append ?_ (args_list_append _ _)
  show wpAny _ _ (updateSeq l (·.push v) >>= fun _ => ret .none) _ _ _
  refine wpAny_bind (wpAny_updateSeq e rfl (wpAny_pure ⟨.none, rfl, q _ (Heap.SameBut.update ..) ⟨_, ?_, n + 1, rfl⟩⟩) (by show its.size ≤ sizeLine; rw [sizeLine_eq]; omega) (by simp [sizeLine_eq]; omega))
  rw [Heap.get?_update_self _ e rfl]
  simp [Obj.mapSeq]
theorem append_tags {a d : Addr} {vs : List Value} {n : Nat} {v : Value} {Q : Value → Shared → Prop} (X : (KF w).In h) (e1 : h.get? a = some (tagsObj d vs.toArray n)) (e2 : h.get? d = some emptyDict)
    (hsz : vs.length ≤ 1000) (q : ∀ h', Heap.SameBut a h h' → h'.get? a = some (tagsObj d (vs ++ [v]).toArray (n + 1)) → Q .none ⟨h', g, dr, tk, os⟩) :
    wpAny (MD w) A (PySem.call (.builtin "list.append") [.ref a, v]) Q E ⟨h, g, dr, tk, os⟩ := by
  refine wpAny_call (codeAny_call_builtin (by decide +kernel) PySem.F.entry_list_append (check_sub (owner := "list") (n := "append") (.inl (by decide +kernel)) (by decide +kernel) (tags_isList X e1 e2) (PySem.F.args_list_append_2 _ _) ?_))
  show wpAny _ _ (updateSeq a (·.push v) >>= fun _ => ret .none) _ _ _
  refine wpAny_bind (wpAny_updateSeq e1 rfl (wpAny_pure (q _ (Heap.SameBut.update ..) ?_)) (by show vs.toArray.size ≤ sizeLine; rw [List.size_toArray, sizeLine_eq]; omega) (by simp [sizeLine_eq]; omega))
  rw [Heap.get?_update_self _ e1 rfl]
  simp [tagsObj, Obj.mapSeq]
end
end Fw

namespace Fw
open PySem PySem.W PySem.W.X PyProof.Rows PySem.Spec PySem.Calls

section
variable {w : World} {mg mb : Str → Option Value} {A : Around} {E : Value → Shared → Prop} {R h : Heap} {g : Array GenState} {dr : Drawn} {tk : Nat} {os : OsState} {env : Env}

theorem next_item {it l : Addr} {i n : Nat} {o : Obj} {items : Array Value} {x : Value} {Q : Option Value → Shared → Prop} (hit : h.IsListIter it l i) (hl : h.get? l = some o) (hd : o.data = .seq items n) (hx : items[i]? = some x)
    (hQ : ∀ h', Heap.SameBut it h h' → (∃ oi, h'.get? it = some oi ∧ LiO l (i + 1) oi) → Q (some x) ⟨h', g, dr, tk, os⟩) :
    wpAny (MD w) A (pyNext (.ref it)) Q E ⟨h, g, dr, tk, os⟩ := by
  obtain ⟨oi, ho, hc, hdi⟩ := id hit
  unfold pyNext
  refine wpAny_bind (wpAny_attempt (wpAny_callSpecial?_slot (name := Str.ofString "__next__") (T := "list_iterator") ⟨oi, ho, hc⟩ slot_listiter_next
    (wpAny_call_entry slot_listiter_next (T := "list_iterator") ⟨oi, ho, hc⟩ entry_listiter_next ?_ (args_listiter_next _))))
  show wpAny _ _ (field (.ref it) 0 >>= _) _ _ _
  refine wpAny_bind (wpAny_field ho hdi (x := .ref l) rfl ?_)
  show wpAny _ _ (if (Value.ref l == Value.none) = true then _ else _) _ _ _
  rw [if_neg (show ¬ ((Value.ref l == Value.none) = true) from Bool.false_ne_true)]
  show wpAny _ _ (field (.ref it) 1 >>= _) _ _ _
  refine wpAny_bind (wpAny_field ho hdi (x := .int i 0) rfl ?_)
  show wpAny _ _ (seqItems? (.ref l) >>= _) _ _ _
  refine wpAny_bind (wpAny_seqItems hl hd ?_)
  simp only [Int.toNat_natCast, hx]
  refine wpAny_bind (wpAny_setField ho hdi (by simp) (wpAny_pure ⟨x, rfl, wpAny_pure (hQ _ (Heap.SameBut.update ..) ?_)⟩))
  exact ⟨_, Heap.get?_update_self _ ho (Obj.isFreed_of_fields (Obj.data_mapFields hdi _)), (Obj.cls_mapFields ..).trans hc, by rw [Obj.data_mapFields hdi]; simp [rawInt]⟩

theorem next_end {it l : Addr} {i n : Nat} {o : Obj} {items : Array Value} {Q : Option Value → Shared → Prop} (hh : A.handled = none) (hit : h.IsListIter it l i) (hl : h.get? l = some o) (hd : o.data = .seq items n) (hx : items[i]? = none)
    (hQ : ∀ h' tk', Heap.ExtBut it h h' → (∃ oi, h'.get? it = some oi) → Q none ⟨h', g, dr, tk', os⟩) :
    wpAny (MD w) A (pyNext (.ref it)) Q E ⟨h, g, dr, tk, os⟩ := by
  obtain ⟨oi, ho, hc, hdi⟩ := id hit
  unfold pyNext
  refine wpAny_bind (wpAny_attempt (wpAny_callSpecial?_slot (name := Str.ofString "__next__") (T := "list_iterator") ⟨oi, ho, hc⟩ slot_listiter_next
    (wpAny_call_entry slot_listiter_next (T := "list_iterator") ⟨oi, ho, hc⟩ entry_listiter_next ?_ (args_listiter_next _))))
  show wpAny _ _ (field (.ref it) 0 >>= _) _ _ _
  refine wpAny_bind (wpAny_field ho hdi (x := .ref l) rfl ?_)
  show wpAny _ _ (if (Value.ref l == Value.none) = true then _ else _) _ _ _
  rw [if_neg (show ¬ ((Value.ref l == Value.none) = true) from Bool.false_ne_true)]
  show wpAny _ _ (field (.ref it) 1 >>= _) _ _ _
  refine wpAny_bind (wpAny_field ho hdi (x := .int i 0) rfl ?_)
  show wpAny _ _ (seqItems? (.ref l) >>= _) _ _ _
  refine wpAny_bind (wpAny_seqItems hl hd ?_)
  simp only [Int.toNat_natCast, hx]
  refine wpAny_bind (wpAny_rule (wpAny_bind (wpAny_setField ho hdi (by simp) ?_)))
  show wpAny _ _ (newExc (.type "StopIteration") [] >>= _) _ _ _
  refine wpAny_bind ?_
  simp only [newExc, newTuple]
  refine wpAny_bind (wpAny_newObj_type ?_ (by size_fits))
  refine wpAny_bind (m := firstArgMember _ _) (wpAny_of_eq (a := Value.none) (by first | rfl | (simp only [firstArgMember]; rfl)) ?_)
  refine wpAny_newObj_type ?_ (by size_fits)
  simp only [raiseNew]
  refine wpAny_bind (wpAny_handled ?_)
  rw [show A.in1.handled = none from hh]
  refine wpAny_bind (wpAny_pure (wpAny_throw ?_))
  refine wpAny_bind (wpAny_isInstance (T := "StopIteration") (b := true) ⟨_, Heap.get?_push_size _ rfl, rfl⟩ isSubtype_stop ?_)
  refine wpAny_pure (hQ _ _ (((Heap.SameBut.update ..).extBut.push _).push _) ?_)
  exact ⟨_, Heap.get?_push_of_some _ (Heap.get?_push_of_some _ (Heap.get?_update_self _ ho (Obj.isFreed_of_fields (Obj.data_mapFields hdi _))))⟩

theorem cmp_tag {B : Heap} {L a d b : Addr} {m : Str → Option Value} {c : Int} {t1 x t2} {c' : Int} {t1' x' t2' n} {Q : Value → Shared → Prop} (o : Aok 180 A) (F : Fr B L h m) (X₀ : (KF w).In B) (T : Stat w mg mb h) (e1 : h.get? a = some (tagObj d c t1 x t2)) (e2 : h.get? d = some emptyDict)
    (e3 : h.get? b = some { cls := .type "tuple", data := .seq #[.int c' t1', .str x' t2'] n }) (sx : PyData.strOk x = true) (sx' : PyData.strOk x' = true)
    (q : ∀ h' tk', Sub h h' → Q (.bool (decide (c = c' ∧ x = x'))) ⟨h', g, dr, tk', os⟩) : wpAny (MD w) A (compareOp .Eq (.ref a) (.ref b)) Q E ⟨h, g, dr, tk, os⟩ := by
  refine cmp_ofEq ?_
  refine cmp_K (tb := .type "tuple") (f := 124) (by have := o.un; show A.units < 9900; omega) F X₀ (tag_inst e1 e2) ?_ (by kernel_rfl) (by kernel_rfl) (by kernel_rfl) ?_
  · exact (Looks.ld e3).andThen .now
  · exact tag_eq (o.less 150 (by decide)) T e1 e2 e3 sx sx' q
end
end Fw

namespace Fw
open PySem PySem.W PySem.W.X PyProof.Rows PySem.Spec PySem.Calls

section
variable {M : Model} {A : Around} {c : Code} {fs : List Frame} {s : Shared} {P : End → Shared → Prop} {env : Env}
  {K : Flow → Sem Fin} {H : Value → Sem Fin} {gd : Bool → Bool} {lv : List Value → List Value}

theorem sx_wrap {α : Type} {m : Sem α} {K : α → Sem Fin} {H : Value → Sem Fin}
    (h : wpAny M (A.over c fs) m (fun a s' => SegX M A c (K a) fs s' P) (fun x s' => SegX M A c (H x) fs s' P) s) : SegX M A c (m.wrap K H gd lv) fs s P := by
  rintro Γ p rfl hΓ
  obtain ⟨e, s', hr, hq⟩ := runs_wrap_of_wp (Φ := fun e s' => e.quiet = true ∧ P e s') K H gd lv m (h (Γ.over fs) p (hΓ.over fs)) (fun a p' s' h' => h' Γ p' rfl hΓ) (fun x p' s' h' => h' Γ p' rfl hΓ)
  exact ⟨e, s', hr, hq⟩
theorem wrap_bind {α β γ : Type} (m : Sem α) (f : α → Sem β) (K : β → Sem γ) (H : Value → Sem γ) (gd lv) : (m >>= f).wrap K H gd lv = m.wrap (fun a => (f a).wrap K H gd lv) H gd lv := by
  rw [Sem.bind_eq_wrap', Sem.wrap_wrap]; rfl
theorem sx_bind {α β : Type} {m : Sem α} {f : α → Sem β} {K : β → Sem Fin} {H : Value → Sem Fin}
    (h : wpAny M (A.over c fs) m (fun a s' => SegX M A c ((f a).wrap K H gd lv) fs s' P) (fun x s' => SegX M A c (H x) fs s' P) s) : SegX M A c ((m >>= f).wrap K H gd lv) fs s P := by
  rw [wrap_bind]; exact sx_wrap h
theorem sx_eq {t t' : Sem Fin} (e : t = t') (h : SegX M A c t' fs s P) : SegX M A c t fs s P := e ▸ h

theorem sx_execs_cons {st : Stmt} {rest : List Stmt}
    (h : SegX M A c ((exec st env).wrap (fun f => match f with | .next => (execs rest env).wrap K H gd lv | f => K f) H gd lv) fs s P) :
    SegX M A c ((execs (st :: rest) env).wrap K H gd lv) fs s P := by rw [execs_cons_wrap]; exact h
theorem sx_execs_nil (h : SegX M A c (K .next) fs s P) : SegX M A c ((execs [] env).wrap K H gd lv) fs s P := h
/-- a statement that does not yield -/
theorem sx_plain {st : Stmt} (h : wpAny M (A.over c fs) (exec st env) (fun f s' => SegX M A c (K f) fs s' P) (fun x s' => SegX M A c (H x) fs s' P) s) : SegX M A c ((exec st env).wrap K H gd lv) fs s P := sx_wrap h
theorem sx_If {test : Expr} {body orelse : List Stmt} {pos : Pos}
    (h : wpAny M (A.over c fs) (isTrue test env (eval test env)) (fun b s' => if b = true then SegX M A c ((execs body env).wrap K H gd lv) fs s' P else SegX M A c ((execs orelse env).wrap K H gd lv) fs s' P)
      (fun x s' => SegX M A c (H x) fs s' P) s) :
    SegX M A c ((exec (.If test body orelse pos) env).wrap K H gd lv) fs s P := by
  rw [exec_If]
  refine sx_bind (wpAny_standAt ?_)
  refine sx_bind (wpAny_mono h (fun b s' hb => ?_) fun _ _ x => x)
  cases b with
  | true => rw [if_pos rfl] at hb ⊢; exact hb
  | false => rw [if_neg Bool.false_ne_true] at hb ⊢; exact hb
end

section
variable {w : World} {A : Around} {c : Code} {fs : List Frame} {s : Shared} {P : End → Shared → Prop} {env : Env}
  {K : Flow → Sem Fin} {H : Value → Sem Fin} {gd : Bool → Bool} {lv : List Value → List Value}

theorem sx_Yield {e : Expr} {ypos pos : Pos} (hfs : splitAtGen fs = none) (hgd : gd false = false) (hfg : fs.any Frame.guarded = false)
    (h : wpAny (MD w) (A.over c fs) (eval e env) (fun v s' => ∀ k l p, k (.send .none) = K .next → P (.susp v false l k c p fs) s') (fun x s' => SegX (MD w) A c (H x) fs s' P) s)
    (hco : env.scope.isCoroutine = false) (hi : interactive env = false) :
    SegX (MD w) A c ((exec (.Expr (.Yield (some e) ypos) pos) env).wrap K H gd lv) fs s P := by
  rw [exec_Expr env _ pos hi rfl]
  show SegX (MD w) A c ((standAt pos >>= fun _ => ((eval e env >>= fun v => (standAt ypos >>= fun _ => yieldOut env v)) >>= fun x => dropValue (.Yield (some e) ypos) pos x)).wrap K H gd lv) fs s P
  have hy : ∀ v, yieldOut env v = yieldValue v := fun v => by simp only [yieldOut, hco, Bool.false_eq_true, if_false]
  simp only [hy]
  refine sx_bind (wpAny_standAt ?_)
  rw [wrap_bind, wrap_bind]
  refine sx_wrap (wpAny_mono h (fun v s' h' => ?_) fun _ _ x => x)
  rw [wrap_bind]
  refine sx_wrap (wpAny_standAt ?_)
  show SegX (MD w) A c (.yield v (gd false) (lv []) _) fs s' P
  rw [hgd]
  exact s_yield PG w A c fs P s' v _ _ hfs hfg fun p => h' _ _ p rfl

theorem sx_func {body : List Stmt}
    (h : SegX (MD w) A (.func body env) ((execs body env).wrap (fun f => .pure (.done (.ret (match f with | .ret v => v | _ => .none)))) (fun e => (leaving env e).wrap (fun _ => .raise e) .raise id id) id id) fs s P) :
    SegX (MD w) A (.func body env) (denote table (.func body env)) fs s P := by
  have e : denote table (.func body env) = (point >>= fun _ => ((execs body env).wrap (fun f => .pure (.done (.ret (match f with | .ret v => v | _ => .none)))) (fun e => (leaving env e).wrap (fun _ => .raise e) .raise id id) id id)) := by
    show (point >>= fun _ => (((execs body env).onRaise (leaving env)) >>= _)) = _
    congr 1; funext _
    rw [Sem.onRaise_eq_wrap, Sem.bind_eq_wrap', Sem.wrap_wrap]
    exact Sem.wrap_congr _ _ _ (fun f => by cases f <;> rfl) (fun e => by rw [Sem.bind_eq_wrap, Sem.wrap_wrap]; rfl)
  rw [e, Sem.bind_eq_wrap']
  exact sx_wrap (wpAny_point h)

theorem sx_For {target iter : Expr} {body orelse : List Stmt} {pos : Pos} (hgd : gd false = false)
    (h : wpAny (MD w) (A.over c fs) (eval iter env) (fun x s₁ => wpAny (MD w) (A.over c fs) (pyIter x) (fun it s₂ =>
      ∀ kf l p, (∀ f, kf (.ok f) = K f) → SegX (MD w) A (.forLoop target it body orelse env) (denote table (.forLoop target it body orelse env)) (.ret kf none false l c p [] :: fs) s₂ P)
      (fun x s' => SegX (MD w) A c (H x) fs s' P) s₁) (fun x s' => SegX (MD w) A c (H x) fs s' P) s)
    (hs : ∀ x, foldedSetIterable iter env x = pure x := by intro _; rfl) :
    SegX (MD w) A c ((exec (.For target iter body orelse pos) env).wrap K H gd lv) fs s P := by
  rw [arm_exec_For]
  refine sx_bind (wpAny_standAt ?_)
  refine sx_bind (wpAny_mono h (fun x s₁ h₁ => ?_) fun _ _ z => z)
  refine sx_bind (wpAny_of_eq (hs x) ?_)
  refine sx_bind (wpAny_standAt ?_)
  refine sx_bind (wpAny_holding (wpAny_mono h₁ (fun it s₂ h₂ => ?_) fun _ _ z => z))
  show SegX (MD w) A c (.call (.forLoop target it body orelse env) none (gd false) (lv []) _) fs s₂ P
  rw [hgd]
  exact s_call PG w A c fs P s₂ _ none false _ _ fun p => h₂ _ _ p fun f => by cases f <;> rfl
end
end Fw

namespace Fw
open PySem PySem.W PySem.W.X PyProof.Rows PySem.Spec PySem.Calls

section
variable {w : World} {A : Around} {c : Code} {fs : List Frame} {s : Shared} {P : End → Shared → Prop} {env : Env}

def loopH (env : Env) (e : Value) : Sem Fin := Sem.bind (do noteFrame e env; theTreesLotGoes e) fun _ => .raise e
def loopK (target : Expr) (it : Value) (body orelse : List Stmt) (env : Env) (f : Flow) : Sem Fin := match f with
  | .next | .cont => .pure (.again (.forLoop target it body orelse env))
  | .brk => .pure (.done .next)
  | .ret v => .pure (.done (.ret v))

theorem sx_forLoop {target : Expr} {it : Value} {body orelse : List Stmt}
    (h : wpAny (MD w) (A.over c fs) (pyNext it) (fun r s₁ => match r with
      | none => SegX (MD w) A c (.pure (.again (.block orelse env))) fs s₁ P
      | some v => wpAny (MD w) (A.over c fs) (assign target env v) (fun _ s₂ => SegX (MD w) A c ((execs body env).wrap (loopK target it body orelse env) (loopH env) id id) fs s₂ P) (fun _ _ => False) s₁) (fun _ _ => False) s)
    (ht : ∀ v, letOwnedTupleGo target it v = pure () := by intro _; rfl) :
    SegX (MD w) A c (denote table (.forLoop target it body orelse env)) fs s P := by
  show SegX (MD w) A c ((forTurn target it body orelse env).onRaise (fun x => do noteFrame x env; theTreesLotGoes x)) fs s P
  rw [Sem.onRaise_eq_wrap]
  unfold forTurn
  refine sx_bind (wpAny_standAt ?_)
  refine sx_bind (wpAny_onRaise (wpAny_mono h (fun r s₁ h₁ => ?_) fun _ _ z => z.elim))
  cases r with
  | none => exact h₁
  | some v =>
    refine sx_bind (wpAny_of_eq (ht v) ?_)
    refine sx_bind (wpAny_mono h₁ (fun _ s₂ h₂ => ?_) fun _ _ z => z.elim)
    rw [wrap_bind]
    have e : (execs body env).wrap (fun f => Sem.wrap Sem.pure (fun e => Sem.bind (do noteFrame e env; theTreesLotGoes e) fun _ => Sem.raise e) id id (match f with
        | .next | .cont => again (.forLoop target it body orelse env)
        | .brk => pure (.done .next)
        | .ret v => pure (.done (.ret v)))) (fun e => Sem.bind (do noteFrame e env; theTreesLotGoes e) fun _ => Sem.raise e) id id = (execs body env).wrap (loopK target it body orelse env) (loopH env) id id :=
      Sem.wrap_congr _ _ _ (fun f => by cases f <;> rfl) fun _ => rfl
    exact sx_eq e h₂

theorem sx_again {c' : Code} (hq : c'.quiet = true) (h : SegX (MD w) A c' (denote table c') fs s P) : SegX (MD w) A c (.pure (.again c')) fs s P := s_again PG w A c fs P s c' hq h
theorem sx_block_nil {kf : Result → Sem Fin} {l : List Value} {c₁ : Code} {p : Pos} (h : SegX (MD w) A c₁ (kf (.ok .next)) fs s P) :
    SegX (MD w) A c (.pure (.again (.block [] env))) (.ret kf none false l c₁ p [] :: fs) s P :=
  sx_again rfl (s_pop PG w A _ fs P s (.ok .next) _ rfl kf none false l c₁ p [] h)
end

theorem Aok.over0 {n : Nat} {A : Around} (o : Aok (n + 20) A) (body : List Stmt) (env : Env) : Aok n (A.over (.func body env) []) :=
  ⟨o.hd, by have := o.dep; show A.depth + 0 + 1 + n ≤ 900; omega, by have := o.un; show A.units + 0 + 3 + n ≤ 9000; omega⟩
theorem Aok.over1 {n : Nat} {A : Around} (o : Aok (n + 20) A) (body : List Stmt) (env : Env) (t it b oe) (k : Result → Sem Fin) (l : List Value) (p : Pos) : Aok n (A.over (.forLoop t it b oe env) [.ret k none false l (.func body env) p []]) :=
  ⟨o.hd, by have := o.dep; show A.depth + 1 + 0 + n ≤ 900; omega, by have := o.un; show A.units + 3 + 0 + n ≤ 9000; omega⟩

/- data -/
abbrev Pair := Int × Str
def TagAt (R : Heap) (v : Value) (p : Pair) : Prop := ∃ a d t1 t2, v = .ref a ∧ R.get? a = some (tagObj d p.1 t1 p.2 t2) ∧ R.get? d = some emptyDict
def TagsAt (R : Heap) (v : Value) (gp : List Pair) : Prop := ∃ a d vs n, v = .ref a ∧ R.get? a = some (tagsObj d vs.toArray n) ∧ R.get? d = some emptyDict ∧ All2 (TagAt R) vs gp ∧ vs.length ≤ 900
theorem TagAt.up {R R' : Heap} (k : Sub R R') {v p} (x : TagAt R v p) : TagAt R' v p := let ⟨a, d, t1, t2, e, e1, e2⟩ := x; ⟨a, d, t1, t2, e, k _ _ e1, k _ _ e2⟩
theorem TagsAt.up {R R' : Heap} (k : Sub R R') {v p} (x : TagsAt R v p) : TagsAt R' v p := let ⟨a, d, vs, n, e, e1, e2, h, hl⟩ := x; ⟨a, d, vs, n, e, k _ _ e1, k _ _ e2, h.mono fun _ _ => TagAt.up k, hl⟩

/-- the groups that are still to come: `cur` is the group under way -/
def emit (sc : Int) : Option (List Pair) → List Pair → List (List Pair)
  | none, [] => []
  | some g, [] => [g]
  | none, t :: r => if t.1 = sc then emit sc (some [t]) r else emit sc none r
  | some g, t :: r => if t.1 = sc then g :: emit sc (some [t]) r else emit sc (some (g ++ [t])) r

/-- the group under way: its value and its place in the ledger -/
inductive CurAt (R : Heap) : Value → Option (List Pair) → Led → Prop
  | none : CurAt R .none none []
  | some {a d vs n gp} : R.get? d = some emptyDict → All2 (TagAt R) vs gp → vs.length ≤ 900 → CurAt R (.ref a) (some gp) [(a, (· = tagsObj d vs.toArray n))]
theorem CurAt.up {R R' : Heap} (k : Sub R R') {v c l} (x : CurAt R v c l) : CurAt R' v c l := by
  cases x with
  | none => exact .none
  | some e h z => exact .some (k _ _ e) (h.mono fun _ _ => TagAt.up k) z

/-- where the rest of a run ends: at the next group, or at its end -/
def PE (w : World) (mg mb : Str → Option Value) : List (List Pair) → Heap → Led → Array GenState → Drawn → OsState → End → Shared → Prop
  | [], R, rest, g, dr, os, e, s' => e = .ret (.ok (.ret .none)) ∧ ∃ h' tk' R', s' = ⟨h', g, dr, tk', os⟩ ∧ Sub R R' ∧ St R' rest h'
  | gp :: gs, R, rest, g, dr, os, e, s' => ∃ v k l c p fs h' tk' R' ld', e = .susp v false l k c p fs ∧ fs.any Frame.guarded = false ∧ s' = ⟨h', g, dr, tk', os⟩ ∧ Sub R R' ∧ St R' (ld' ++ rest) h' ∧ TagsAt R' v gp ∧
      ∀ A R3 rest3 h3 g3 dr3 tk3 os3, Aok 300 A → Sub R' R3 → Stat w mg mb R3 → St R3 (ld' ++ rest3) h3 → SegX (MD w) A c (k (.send .none)) fs ⟨h3, g3, dr3, tk3, os3⟩ (PE w mg mb gs R3 rest3 g3 dr3 os3)
theorem PE.up {w mg mb} : ∀ {gs : List (List Pair)} {R R0 : Heap} {rest g dr os e s'}, Sub R0 R → PE w mg mb gs R rest g dr os e s' → PE w mg mb gs R0 rest g dr os e s'
  | [], _, _, _, _, _, _, _, _, k, ⟨e, h', tk', R', es, k', S⟩ => ⟨e, h', tk', R', es, k.trans k', S⟩
  | _ :: _, _, _, _, _, _, _, _, _, k, ⟨v, kk, l, c, p, fs, h', tk', R', ld', e, hf, es, k', S, T, N⟩ => ⟨v, kk, l, c, p, fs, h', tk', R', ld', e, hf, es, k.trans k', S, T, N⟩
theorem SegX.mono {M : Model} {A : Around} {c t fs s} {P P' : End → Shared → Prop} (h : SegX M A c t fs s P) (k : ∀ e s', P e s' → P' e s') : SegX M A c t fs s P' := fun Γ p hc hΓ => by
  obtain ⟨e, s', r, q, z⟩ := h Γ p hc hΓ
  exact ⟨e, s', r, q, k _ _ z⟩

/-- what a generator's state does when it is woken -/
def Wakes (w : World) (A : Around) (gst : GenState) (s : Shared) (P : End → Shared → Prop) : Prop := match gst with
  | .fresh c => SegX (MD w) A c (denote table c) [] s P
  | .suspended k _ c _ fs _ => SegX (MD w) A c (k (.send .none)) fs s P
  | _ => False
def Run (w : World) (mg mb : Str → Option Value) (gs : List (List Pair)) (R : Heap) (ld : Led) (gst : GenState) : Prop :=
  ∀ A R2 rest h2 g2 dr tk os, Aok 300 A → Sub R R2 → Stat w mg mb R2 → St R2 (ld ++ rest) h2 → Wakes w A gst ⟨h2, g2, dr, tk, os⟩ (PE w mg mb gs R2 rest g2 dr os)

def stmtsOf : FuncBody → List Stmt
  | .stmts b => b
  | .expr _ => []
def forT : Stmt → Expr
  | .For t _ _ _ _ => t
  | _ => default
def forB : Stmt → List Stmt
  | .For _ _ b _ _ => b
  | _ => []
noncomputable def gbody (w : World) : List Stmt := stmtsOf (fnAt w 375).body
noncomputable def genv (w : World) (L : Addr) : Env := newEnv (fnAt w 375).scope L (fnAt w 375).globals [] ((fnAt w 375).qualname ++ ".<locals>.") (some 375) (fnAt w 375).code none (fnAt w 375).builtins
noncomputable def gfor (w : World) : Stmt := ((gbody w).drop 1).headD default
noncomputable def gtail (w : World) : List Stmt := (gbody w).drop 2
noncomputable def gcode (w : World) (L it : Addr) : Code := .forLoop (forT (gfor w)) (.ref it) (forB (gfor w)) [] (genv w L)
def gK (f : Flow) : Sem Fin := .pure (.done (.ret (match f with | .ret v => v | _ => .none)))
def gH (env : Env) (e : Value) : Sem Fin := (leaving env e).wrap (fun _ => .raise e) .raise id id
/-- the tree behind the loop -/
noncomputable def gafter (w : World) (L : Addr) (f : Flow) : Sem Fin := match f with | .next => (execs (gtail w) (genv w L)).wrap gK (gH (genv w L)) id id | f => gK f

set_option pp.deepTerms true in
example (w : World) (L : Addr) : ∃ x, forB (gfor w) = x ∧ gtail w = gtail w := by
  refine ⟨_, rfl, ?_⟩
  with_unfolding_all exact rfl
end Fw

namespace Fw
open PySem PySem.W PySem.W.X PyProof.Rows PySem.Spec PySem.Calls

def upd (m : Str → Option Value) (x : Str) (v : Value) : Str → Option Value := fun y => if y = x then some v else m y
theorem upd_self {m x v} : upd m x v x = some v := if_pos rfl
theorem upd_ne {m x v y} (h : y ≠ x) : upd m x v y = m y := if_neg h

section
variable {w : World} {mg mb : Str → Option Value} {A : Around} {E : Value → Shared → Prop} {R h : Heap} {g : Array GenState} {dr : Drawn} {tk : Nat} {os : OsState} {env : Env} {led : Led}

theorem st_local {x : Str} {v : Value} {L : Addr} {m} {Q : Unit → Shared → Prop} (S : St R ((L, NsO m) :: led) h) (hL : env.locals = L) (hl : env.kindOf x = some .local)
    (q : ∀ h' tk', St R ((L, NsO (upd m x v)) :: led) h' → Heap.SameBut L h h' → Q () ⟨h', g, dr, tk', os⟩)
    (hp : (env.scope.kind == .class || (env.scope.kind == .module && env.locals != env.globals)) = false := by rfl) : wpAny (MD w) A (storeName env x v) Q E ⟨h, g, dr, tk, os⟩ := by
  subst hL
  exact wpAny_storeName_local hl (NsO.ns S.head) (fun h' hn hs => q h' _ (S.ch hs.extBut (NsO.of hn)) hs) hp

structure GL (w : World) (tl : Addr) (ts : List Pair) (sc : Int) (L it : Addr) (i : Nat) (cur : Option (List Pair)) (R : Heap) (rest : Led) (h : Heap) : Prop where
  ex : ∃ m cl gv tok lo vts k, St R ((L, NsO m) :: (it, LiO tl i) :: (cl ++ rest)) h ∧ m "splitcode" = some (.int sc tok) ∧ m "group" = some gv ∧ CurAt R gv cur cl ∧
    R.get? tl = some lo ∧ lo.data = .seq (List.toArray vts) k ∧ All2 (TagAt R) vts ts

theorem St.addNew {P : Obj → Prop} {h' : Heap} {a : Addr} {o : Obj} (S : St R led h) (k : Sub h h') (e : h'.get? a = some o) (n : h.get? a = none) (q : P o) : St R ((a, P) :: led) h' := by
  refine ⟨S.sub.trans k, fun p hp => ?_, fun p hp => ?_, ?_⟩
  · rcases List.mem_cons.mp hp with rfl | hp
    · exact ⟨o, e, q⟩
    · obtain ⟨o', e', q'⟩ := S.led p hp
      exact ⟨o', k _ _ e', q'⟩
  · rcases List.mem_cons.mp hp with rfl | hp
    · cases z : R.get? a with
      | none => rfl
      | some o' => have := S.sub _ _ z; rw [n] at this; cases this
    · exact S.off p hp
  · rw [List.map_cons]
    exact List.nodup_cons.mpr ⟨S.not_led_new (h' := h) n, S.nd⟩
theorem St.frz (S : St R led h) : ∃ R', Sub R R' ∧ St R' led h ∧ ∀ b o, h.get? b = some o → b ∉ led.map (·.1) → R'.get? b = some o := S.freeze (fun _ hp => hp) S.nd

theorem call_Tags {l : Addr} {v : Value} {n : Nat} {Q : Value → Shared → Prop} (o : Aok 100 A) (X : (KF w).In h) (hl : h.get? l = some { cls := .type "list", data := .seq #[v] n })
    (q : ∀ h' tk' a d, Sub h h' → h'.get? a = some (tagsObj d #[v] 1) → h.get? a = none → h'.get? d = some emptyDict → h.get? d = none → Q (.ref a) ⟨h', g, dr, tk', os⟩) :
    wpAny (MD w) A (PySem.call (.ref 363) [.ref l]) Q E ⟨h, g, dr, tk, os⟩ := by
  refine wpAny_mono (wpAny_AB o (mkTags_run w h g dr tk os X l v n hl)) ?_ fun _ _ z => z.elim
  rintro v s' ⟨h', tk', a, d, rfl, rfl, k, ⟨e1, n1⟩, e2, n2⟩
  exact q h' tk' a d k e1 n1 e2 n2

theorem ld_global {x : Str} {pos : Pos} {v : Value} {Q : Value → Shared → Prop} (T : Stat w mg mb h) (hv : nsIn (KF w) mainGlobals x = some (some v)) (q : Q v ⟨h, g, dr, tk, os⟩)
    (hg : env.globals = mainGlobals) (hk : env.scope.kind = .function) (hx : env.kindOf x = some .globalImplicit) (hd : (x == ("__debug__" : Str)) = false := by decide) :
    wpAny (MD w) A (eval (.Name x pos) env) Q E ⟨h, g, dr, tk, os⟩ :=
  Calls.Name_function_global hk hx (Calls.loadGlobal_global (env := env) (hg ▸ T.g) (mg_of T.K T.g hv) q) hd

def ifB : Stmt → List Stmt
  | .If _ b _ _ => b
  | _ => []
noncomputable def gassign (w : World) : List Stmt := (ifB ((forB (gfor w)).headD default)).drop 1

theorem assignGroup {c : Code} {fs : List Frame} {P : End → Shared → Prop} {K : Flow → Sem Fin} {H : Value → Sem Fin} {L a : Addr} {m : Str → Option Value} (o : Aok 200 (A.over c fs)) (T : Stat w mg mb h)
    (S : St R ((L, NsO m) :: led) h) (ht : m "tag" = some (.ref a))
    (q : ∀ h' tk' R' ga d, Sub R R' → R'.get? d = some emptyDict → St R' ((L, NsO (upd m "group" (.ref ga))) :: (ga, (· = tagsObj d #[.ref a] 1)) :: led) h' → SegX (MD w) A c (K .next) fs ⟨h', g, dr, tk', os⟩ P) :
    SegX (MD w) A c ((execs (gassign w) (genv w L)).wrap K H id id) fs ⟨h, g, dr, tk, os⟩ P := by
  refine sx_execs_cons ?_
  refine sx_plain ?_
  refine wpAny_Assign_Name ?_
  refine wpAny_Call_ofName ?_
  refine ld_global T (v := .ref 363) (by kernel_rfl) ?_ (by kernel_rfl) (by kernel_rfl) (by kernel_rfl)
  refine callWith_K T.K (by kernel_rfl) ?_
  refine Calls.spliced_cons ?_
  refine wpAny_List_spliced ?_
  refine Calls.spliced_cons ?_
  refine ld_local (by kernel_rfl) (NsO.ns S.head) (v := .ref a) ht ?_ (by kernel_rfl)
  refine Calls.spliced_nil ⟨Nat.le_of_ble_eq_true rfl, ?_⟩
  refine Calls.spliced_nil ⟨KIn.up T.K (Sub.push _ _), ?_⟩
  refine call_Tags (o.less _ (by decide)) (KIn.up T.K (Sub.push _ _)) (Heap.get?_push_size _ rfl) fun h' tk' ga d k e1 n1 e2 n2 => ?_
  have S1 := (S.ext (Sub.push h _)).addNew (P := (· = tagsObj d #[.ref a] 1)) k e1 n1 rfl
  refine st_local S1.swap rfl (by kernel_rfl) (fun h₂ tk₂ S2 hs₂ => ?_) (by kernel_rfl)
  obtain ⟨R', kR, S3, fr⟩ := S2.frz
  refine q h₂ tk₂ R' ga d kR (fr d _ (hs₂.extBut _ _ ?_ e2) ?_) S3
  · intro z; subst z
    obtain ⟨o', e', _⟩ := (S.ext (Sub.push h _)).head
    rw [e'] at n2; cases n2
  · intro z
    rcases List.mem_cons.mp z with z | z
    · subst z
      obtain ⟨o', e', _⟩ := (S.ext (Sub.push h _)).head
      rw [e'] at n2; cases n2
    · rcases List.mem_cons.mp z with z | z
      · have hne : d ≠ ga := fun q => by subst q; rw [e1] at e2; exact nomatch e2
        exact hne z
      · exact (S.ext (Sub.push h _)).not_led_new (h' := h) n2 (List.mem_cons_of_mem _ z)

theorem rot3 {α : Type} {a b c : α} {l : List α} : List.Perm (c :: a :: b :: l) (a :: b :: c :: l) := (List.Perm.swap a c _).trans (.cons _ (.swap b c _))
theorem St.tail_swap {R h : Heap} {led : Led} {p q r} (S : St R (p :: q :: r :: led) h) : St R (p :: r :: q :: led) h := S.perm (.cons _ (.swap _ _ _))
theorem testGroup {L : Addr} {gv : Value} {m : Str → Option Value} {p1 p2 p3 : Pos} {n0 : Nat} {b : Bool} {Q : Bool → Shared → Prop} (S : St R ((L, NsO m) :: led) h) (hgv : m "group" = some gv) (hb : (!(gv == .none)) = b) (q : Q b ⟨h, g, dr, tk, os⟩) :
    wpAny (MD w) A (isTrue (.Compare (.Name "group" p1) [.IsNot] [.Constant .none n0 p2] p3) (genv w L) (eval (.Compare (.Name "group" p1) [.IsNot] [.Constant .none n0 p2] p3) (genv w L))) Q E ⟨h, g, dr, tk, os⟩ := by
  subst hb
  refine wpAny_isTrue_Compare1 ?_
  refine ld_local (by kernel_rfl) (NsO.ns S.head) (v := gv) hgv ?_ (by kernel_rfl)
  refine Constant_none ?_
  refine isNot_none ?_
  exact wpAny_truthy_bool q

set_option maxHeartbeats 4000000 in
theorem loopSeg (tl : Addr) (ts : List Pair) (sc : Int) (L it : Addr) (lenb : ts.length ≤ 100) : ∀ (rem : List Pair) (i : Nat) (cur : Option (List Pair)), ts.drop i = rem → (∀ gp, cur = some gp → gp.length ≤ i) →
    ∀ A R rest h g dr tk os kf l p, Aok 300 A → Stat w mg mb R → GL w tl ts sc L it i cur R rest h → (∀ f, kf (.ok f) = gafter w L f) →
    SegX (MD w) A (gcode w L it) (denote table (gcode w L it)) [.ret kf none false l (.func (gbody w) (genv w L)) p []] ⟨h, g, dr, tk, os⟩ (PE w mg mb (emit sc cur rem) R rest g dr os) := by
  intro rem
  induction rem with
  | nil =>
    intro i cur hd hc A R rest h g dr tk os kf l p o T G hk
    obtain ⟨m, cl, gv, tok, lo, vts, k, S, hsc, hgv, hcur, hlo, hld, hall⟩ := G
    have od : Aok 280 (A.over (gcode w L it) [.ret kf none false l (.func (gbody w) (genv w L)) p []]) := Aok.over1 o _ _ _ _ _ _ _ _ _
    have hit := S.swap.head
    have hle : vts.length ≤ i := by rw [hall.length]; exact List.drop_eq_nil_iff.mp hd
    refine sx_forLoop ?_
    refine next_end (i := i) od.hd (by obtain ⟨oi, e, a, b⟩ := hit; exact ⟨oi, e, a, b⟩) (S.sub _ _ hlo) hld (by simpa using hle) fun h₁ tk₁ hs₁ hi₁ => ?_
    refine sx_block_nil ?_
    rw [hk]
    obtain ⟨oi, hoi⟩ := hi₁
    have S1 := (S.swap.ch (P' := fun _ => True) hs₁ ⟨oi, hoi, trivial⟩).swap
    show SegX _ _ _ ((execs (gtail w) (genv w L)).wrap gK (gH (genv w L)) id id) _ _ _
    refine sx_execs_cons ?_
    refine sx_If ?_
    cases hcur with
    | none =>
      refine testGroup S1 hgv (b := false) rfl ?_
      rw [if_neg Bool.false_ne_true]
      refine sx_execs_nil ?_
      refine sx_execs_nil ?_
      refine s_end PG w A _ _ _ (.ok (.ret .none)) _ rfl ?_
      exact ⟨rfl, h₁, tk₁, R, rfl, fun _ _ z => z, S1.tail.tail⟩
    | some hdd hvs hln =>
      rename_i ga0 d0 vs0 n0 gp0
      refine testGroup S1 hgv (b := true) rfl ?_
      rw [if_pos rfl]
      refine sx_execs_cons ?_
      refine sx_Yield rfl rfl rfl ?_ (by rfl) (by rfl)
      refine ld_local (by kernel_rfl) (NsO.ns S1.head) (v := .ref ga0) hgv ?_ (by kernel_rfl)
      intro kk ll pp hkk
      have he : emit sc (some gp0) [] = [gp0] := rfl
      rw [he]
      obtain ⟨R', kR, S4, ⟨og, eg, rfl⟩, _⟩ := (St.perm (led' := (ga0, (· = tagsObj d0 vs0.toArray n0)) :: (L, NsO m) :: (it, fun _ => True) :: rest) S1 rot3).freezeHead
      refine ⟨.ref ga0, kk, ll, _, pp, _, h₁, tk₁, R', [], rfl, rfl, rfl, kR, S4.tail.tail, ⟨ga0, d0, vs0, n0, rfl, eg, kR _ _ hdd, hvs.mono fun _ _ => TagAt.up kR, hln⟩, ?_⟩
      intro A R3 rest3 h3 g3 dr3 tk3 os3 o k3 T3' S5
      rw [hkk]
      refine sx_execs_nil ?_
      refine sx_execs_nil ?_
      refine s_end PG w A _ _ _ (.ok (.ret .none)) _ rfl ?_
      exact ⟨rfl, h3, tk3, R3, rfl, fun _ _ z => z, S5⟩
  | cons t r ih =>
    intro i cur hd hc A R rest h g dr tk os kf l p o T G hk
    obtain ⟨m, cl, gv, tok, lo, vts, k, S, hsc, hgv, hcur, hlo, hld, hall⟩ := G
    have od : Aok 280 (A.over (gcode w L it) [.ret kf none false l (.func (gbody w) (genv w L)) p []]) := Aok.over1 o _ _ _ _ _ _ _ _ _
    have hit := S.swap.head
    have hti : ts[i]? = some t := by
      have := congrArg List.head? hd
      rwa [List.head?_drop] at this
    obtain ⟨tv, htv, ht⟩ := hall.get hti
    refine sx_forLoop ?_
    refine next_item (i := i) (by obtain ⟨oi, e, a, b⟩ := hit; exact ⟨oi, e, a, b⟩) (S.sub _ _ hlo) hld (x := tv) (by simpa using htv) fun h₁ hs₁ hi₁ => ?_
    have S1 := (S.swap.ch hs₁.extBut hi₁).swap
    show wpAny _ _ (assign (.Name _ _) _ _) _ _ _
    refine wpAny_assign_Name ?_
    refine st_local S1 rfl (by kernel_rfl) (fun h₂ tk₂ S2 hs₂ => ?_) (by kernel_rfl)
    have sc2 : upd m "tag" tv "splitcode" = some (.int sc tok) := (upd_ne (by decide)).trans hsc
    have gr2 : upd m "tag" tv "group" = some gv := (upd_ne (by decide)).trans hgv
    obtain ⟨a, d, t1, t2, rfl, ea, ed⟩ := ht
    refine sx_execs_cons ?_
    refine sx_If ?_
    refine wpAny_isTrue_Compare1 ?_
    refine Attribute_Name_ ?_
    refine ld_local (by kernel_rfl) (NsO.ns S2.head) (v := .ref a) upd_self ?_ (by kernel_rfl)
    refine attr_code (od.less 120 (by decide)) (KIn.up T.K S2.sub) (S2.sub _ _ ea) (S2.sub _ _ ed) fun h₃ tk₃ k₃ => ?_
    have S3 := S2.ext k₃
    refine ld_local (by kernel_rfl) (NsO.ns S3.head) (v := .int sc tok) sc2 ?_ (by kernel_rfl)
    refine PyProof.Rows.eq_int ?_
    refine wpAny_truthy_bool ?_
    have T3 : Stat w mg mb h₃ := T.up S3.sub
    have hdr : ts.drop (i + 1) = r := by rw [← List.drop_drop, hd]; rfl
    have hsc3 : upd m "tag" (.ref a) "splitcode" = some (.int sc tok) := sc2
    split
    · next hsc' =>
      have hsc' : t.1 = sc := eq_of_beq hsc'
      refine sx_execs_cons ?_
      refine sx_If ?_
      cases hcur with
      | none =>
        refine testGroup S3 gr2 (b := false) rfl ?_
        rw [if_neg Bool.false_ne_true]
        refine sx_execs_nil ?_
        refine assignGroup (od.less 200 (by decide)) T3 S3 upd_self fun h₄ tk₄ R' ga dd kR hdd S4 => ?_
        refine sx_execs_nil ?_
        refine sx_again rfl ?_
        have he : emit sc none (t :: r) = emit sc (some [t]) r := if_pos hsc'
        rw [he]
        refine SegX.mono (ih (i + 1) (some [t]) hdr (fun gp e => by cases e; show 1 ≤ i + 1; omega) A R' rest h₄ g dr tk₄ os kf l p o (T.up kR) ⟨_, [(ga, _)], .ref ga, tok, lo, vts, k, S4.tail_swap, ?_, upd_self, .some hdd (.cons ⟨a, d, t1, t2, rfl, kR _ _ ea, kR _ _ ed⟩ .nil) (by show 1 ≤ 900; omega), kR _ _ hlo, hld, hall.mono fun _ _ => TagAt.up kR⟩ hk) fun e s' => PE.up kR
        exact (upd_ne (by decide)).trans hsc3
      | some hdd hvs hln =>
        rename_i ga0 d0 vs0 n0 gp0
        refine testGroup S3 gr2 (b := true) rfl ?_
        rw [if_pos rfl]
        refine sx_execs_cons ?_
        refine sx_Yield rfl rfl rfl ?_ (by rfl) (by rfl)
        refine ld_local (by kernel_rfl) (NsO.ns S3.head) (v := .ref ga0) gr2 ?_ (by kernel_rfl)
        intro kk ll pp hkk
        obtain ⟨R', kR, S4, ⟨og, eg, rfl⟩, _⟩ := (St.perm (led' := (ga0, (· = tagsObj d0 vs0.toArray n0)) :: (L, NsO (upd m "tag" (.ref a))) :: (it, LiO tl (i + 1)) :: rest) S3 rot3).freezeHead
        have he : emit sc (some gp0) (t :: r) = gp0 :: emit sc (some [t]) r := if_pos hsc'
        rw [he]
        refine ⟨.ref ga0, kk, ll, _, pp, _, h₃, tk₃, R', [(L, NsO (upd m "tag" (.ref a))), (it, LiO tl (i + 1))], rfl, rfl, rfl, kR, S4, ⟨ga0, d0, vs0, n0, rfl, eg, kR _ _ hdd, hvs.mono fun _ _ => TagAt.up kR, hln⟩, ?_⟩
        intro A R3 rest3 h3 g3 dr3 tk3 os3 o k3 T3' S5
        rw [hkk]
        have od : Aok 280 (A.over (gcode w L it) [.ret kf none false l (.func (gbody w) (genv w L)) p []]) := Aok.over1 o _ _ _ _ _ _ _ _ _
        refine sx_execs_nil ?_
        refine assignGroup (od.less 200 (by decide)) (T3'.up S5.sub) S5 upd_self fun h₄ tk₄ R4 ga dd kR4 hdd4 S6 => ?_
        refine sx_execs_nil ?_
        refine sx_again rfl ?_
        refine SegX.mono (ih (i + 1) (some [t]) hdr (fun gp e => by cases e; show 1 ≤ i + 1; omega) A R4 rest3 h₄ g3 dr3 tk₄ os3 kf l p o (T3'.up kR4) ⟨_, [(ga, _)], .ref ga, tok, lo, vts, k, S6.tail_swap, ?_, upd_self, .some hdd4 (.cons ⟨a, d, t1, t2, rfl, kR4 _ _ (k3 _ _ (kR _ _ ea)), kR4 _ _ (k3 _ _ (kR _ _ ed))⟩ .nil) (by show 1 ≤ 900; omega), kR4 _ _ (k3 _ _ (kR _ _ hlo)), hld, hall.mono fun _ _ x => TagAt.up kR4 (TagAt.up k3 (TagAt.up kR x))⟩ hk) fun e s' => PE.up kR4
        exact (upd_ne (by decide)).trans hsc3
    · next hsc' =>
      have hsc' : t.1 ≠ sc := fun z => hsc' (beq_iff_eq.mpr z)
      refine sx_execs_cons ?_
      refine sx_If ?_
      cases hcur with
      | none =>
        refine testGroup S3 gr2 (b := false) rfl ?_
        rw [if_neg Bool.false_ne_true]
        refine sx_execs_nil ?_
        refine sx_execs_nil ?_
        refine sx_execs_nil ?_
        refine sx_again rfl ?_
        have he : emit sc none (t :: r) = emit sc none r := if_neg hsc'
        rw [he]
        exact ih (i + 1) none hdr (fun gp e => nomatch e) A R rest h₃ g dr tk₃ os kf l p o T ⟨_, [], .none, tok, lo, vts, k, S3, hsc3, gr2, .none, hlo, hld, hall⟩ hk
      | some hdd hvs hln =>
        rename_i ga0 d0 vs0 n0 gp0
        refine testGroup S3 gr2 (b := true) rfl ?_
        rw [if_pos rfl]
        refine sx_execs_cons ?_
        refine sx_plain ?_
        refine wpAny_Expr_any ?_
        have S4 := (St.perm (led' := (ga0, (· = tagsObj d0 vs0.toArray n0)) :: (L, NsO (upd m "tag" (.ref a))) :: (it, LiO tl (i + 1)) :: rest) S3 rot3)
        obtain ⟨og, eg, rfl⟩ := S4.head
        have X3 : (KF w).In h₃ := KIn.up T.K S3.sub
        refine Call_append_any ?_ (by rfl) (by rfl) (by rfl)
        refine ld_local (by kernel_rfl) (NsO.ns S3.head) (v := .ref ga0) gr2 ⟨fun pl Q' hq => getMethod_tags X3 eg (S3.sub _ _ hdd) hq, ?_⟩ (by kernel_rfl)
        refine ld_local (by kernel_rfl) (NsO.ns S3.head) (v := .ref a) upd_self ?_ (by kernel_rfl)
        refine append_tags X3 eg (S3.sub _ _ hdd) (by omega) fun h₄ hs₄ e₄ => ?_
        have S5 := (S4.ch (P' := (· = tagsObj d0 (vs0 ++ [Value.ref a]).toArray (n0 + 1))) hs₄.extBut ⟨_, e₄, rfl⟩)
        refine sx_execs_nil ?_
        refine sx_execs_nil ?_
        refine sx_execs_nil ?_
        refine sx_again rfl ?_
        have he : emit sc (some gp0) (t :: r) = emit sc (some (gp0 ++ [t])) r := if_neg hsc'
        rw [he]
        have hgl : gp0.length ≤ i := hc gp0 rfl
        have hil : i < ts.length := (List.getElem?_eq_some_iff.mp hti).1
        refine ih (i + 1) (some (gp0 ++ [t])) hdr (fun gp e => by cases e; rw [List.length_append]; show gp0.length + 1 ≤ i + 1; omega) A R rest h₄ g dr tk₃ os kf l p o T ⟨_, [(ga0, _)], .ref ga0, tok, lo, vts, k, St.perm S5 rot3.symm, hsc3, gr2, .some (vs := vs0 ++ [.ref a]) hdd (hvs.snoc ⟨a, d, t1, t2, rfl, ea, ed⟩) ?_, hlo, hld, hall⟩ hk
        rw [List.length_append, hvs.length]; show gp0.length + 1 ≤ 900; omega
end
end Fw

namespace Fw
open PySem PySem.W PySem.W.X PyProof.Rows PySem.Spec PySem.Calls

section
variable {w : World} {mg mb : Str → Option Value} {A : Around} {E : Value → Shared → Prop} {R h : Heap} {g : Array GenState} {dr : Drawn} {tk : Nat} {os : OsState} {env : Env} {led : Led}

theorem wake_fresh {α : Type} {s : Shared} {n : Nat} {l : List Value} {k : GenResult → Sem α} {c₀ : Code} {Q : α → Shared → Prop} (hg : s.gens[n]? = some (.fresh c₀))
    (x : SegX (MD w) A c₀ (denote table c₀) [] (s.setGen n .running) (fun e s₁ => wpAny (MD w) A (k e.result) Q E (s₁.setGen n e.genState))) : wpAny (MD w) A (.resume n (.send .none) l k) Q E s :=
  wake_any α PG w hg (.inl ⟨rfl, rfl, rfl, rfl⟩) (fun Γ => Γ.In A) (fun _ h => h) (x.mono fun _ _ h Γ p hC => h Γ p hC)
theorem wake_susp {α : Type} {s : Shared} {n : Nat} {r : Resume} {l : List Value} {k : GenResult → Sem α} {k₀ : Resume → Sem Fin} {l₀ : List Value} {c₀ : Code} {p₀ : Pos} {fs₀ : List Frame} {cl : Bool} {Q : α → Shared → Prop} (hg : s.gens[n]? = some (.suspended k₀ l₀ c₀ p₀ fs₀ cl))
    (x : SegX (MD w) A c₀ (k₀ r) fs₀ (s.setGen n .running) (fun e s₁ => wpAny (MD w) A (k e.result) Q E (s₁.setGen n e.genState))) : wpAny (MD w) A (.resume n r l k) Q E s :=
  wake_any α PG w hg (.inr ⟨k₀, l₀, p₀, cl, rfl, rfl⟩) (fun Γ => Γ.In A) (fun _ h => h) (x.mono fun _ _ h Γ p hC => h Γ p hC)

theorem bare_set {g : Array GenState} {n : Nat} {x : GenState} (h : AllBare g) (hx : x.bare = true) : AllBare (g.setIfInBounds n x) := fun y hy => by
  rcases Array.mem_or_eq_of_mem_setIfInBounds hy with z | rfl
  · exact h y z
  · exact hx

def NextQ (w : World) (mg mb : Str → Option Value) (gs : List (List Pair)) (R : Heap) (rest : Led) (g : Array GenState) (dr : Drawn) (os : OsState) (i : Nat) (Q : Option Value → Shared → Prop) : Prop := match gs with
  | [] => ∀ h' tk' R' g', Sub R R' → St R' rest h' → (AllBare g → AllBare g') → Q none ⟨h', g', dr, tk', os⟩
  | gp :: gs' => ∀ v h' tk' R' ld' g' gst', Sub R R' → St R' (ld' ++ rest) h' → TagsAt R' v gp → g'[i]? = some gst' → (AllBare g → AllBare g') → Run w mg mb gs' R' ld' gst' → Q (some v) ⟨h', g', dr, tk', os⟩

theorem next_gen {a : Addr} {i : Nat} {gst : GenState} {gs : List (List Pair)} {R0 : Heap} {ld rest : Led} {Q : Option Value → Shared → Prop} (o : Aok 340 A) (T : Stat w mg mb R) (hg : R.IsGen a i) (hgs : g[i]? = some gst) (k : Sub R0 R)
    (S : St R (ld ++ rest) h) (X : Run w mg mb gs R0 ld gst) (q : NextQ w mg mb gs R rest g dr os i Q) : wpAny (MD w) A (pyNext (.ref a)) Q E ⟨h, g, dr, tk, os⟩ := by
  have hl : h.NoLimit := T.lim.keeps S.sub
  have hg' : h.IsGen a i := hg.keeps S.sub
  have hi : i < g.size := (Array.getElem?_eq_some_iff.mp hgs).1
  unfold pyNext
  refine wpAny_bind (wpAny_attempt (wpAny_callSpecial?_slot (name := Str.ofString "__next__") (T := "generator") hg'.typeIs slot_gen_next
    (wpAny_call_entry slot_gen_next (T := "generator") hg'.typeIs entry_gen_next ?_ (args_gen_next _))))
  show wpAny _ _ (Builtin.Generator.genWake (.ref a) (.send .none)) _ _ _
  unfold Builtin.Generator.genWake
  refine wpAny_bind (wpAny_holding (wpAny_genNumber hg' (wpAny_bind (wpAny_genState hgs ?_))))
  have oi : Aok 300 A.in1 := Aok.in1 (o.less 320 (by decide))
  have hgo := X A.in1 R rest h (g.setIfInBounds i .running) dr tk os oi k T S
  have hroom : A.in1.depth < recursionLimit := by have := oi.dep; unfold recursionLimit; omega
  have hst : i < (g.setIfInBounds i .running).size := by rw [Array.size_setIfInBounds]; exact hi
  cases gst with
  | running => exact hgo.elim
  | finished => exact hgo.elim
  | fresh c =>
    refine wpAny_bind (wpAny_roomToWake hl hroom ?_)
    show wpAny _ _ (.resume i (.send .none) [] _) _ _ _
    refine wake_fresh hgs (hgo.mono fun e s₁ z => ?_)
    cases gs with
    | nil =>
      obtain ⟨rfl, h', tk', R', rfl, kR, S'⟩ := z
      show wpAny _ _ (newExc (.type "StopIteration") [] >>= _) _ _ _
      refine wpAny_bind ?_
      simp only [newExc, newTuple]
      refine wpAny_bind (wpAny_newObj_type ?_ (by size_fits))
      refine wpAny_bind (m := firstArgMember _ _) (wpAny_of_eq (a := Value.none) (by first | rfl | (simp only [firstArgMember]; rfl)) ?_)
      refine wpAny_newObj_type ?_ (by size_fits)
      simp only [raiseNew]
      refine wpAny_bind (wpAny_bind (wpAny_handled ?_))
      rw [show A.in1.handled = none from o.hd]
      refine wpAny_throw ?_
      refine wpAny_bind (wpAny_isInstance (T := "StopIteration") (b := true) ⟨_, Heap.get?_push_size _ rfl, rfl⟩ isSubtype_stop ?_)
      exact wpAny_pure (q _ _ R' _ kR (S'.ext ((Sub.push _ _).trans (Sub.push _ _))) fun b => bare_set (bare_set b rfl) rfl)
    | cons gp gs' =>
      obtain ⟨v, kk, l, c', p, fs, h', tk', R', ld', rfl, hf, rfl, kR, S', hT, N⟩ := z
      refine wpAny_pure ⟨v, rfl, wpAny_pure (q v h' tk' R' ld' _ _ kR S' hT (Array.getElem?_setIfInBounds_self_of_lt hst) (fun b => bare_set (bare_set b rfl) ?_) ?_)⟩
      · show (!(false || fs.any Frame.guarded)) = true
        rw [hf]; rfl
      · intro A3 R3 rest3 h3 g3 dr3 tk3 os3 o3 k3 T3 S3
        exact N A3 R3 rest3 h3 g3 dr3 tk3 os3 o3 k3 T3 S3
  | suspended k₀ l₀ c₀ p₀ fs₀ cl =>
    refine wpAny_bind (wpAny_roomToWake hl hroom ?_)
    show wpAny _ _ (.resume i (.send .none) [] _) _ _ _
    refine wake_susp hgs (hgo.mono fun e s₁ z => ?_)
    cases gs with
    | nil =>
      obtain ⟨rfl, h', tk', R', rfl, kR, S'⟩ := z
      show wpAny _ _ (newExc (.type "StopIteration") [] >>= _) _ _ _
      refine wpAny_bind ?_
      simp only [newExc, newTuple]
      refine wpAny_bind (wpAny_newObj_type ?_ (by size_fits))
      refine wpAny_bind (m := firstArgMember _ _) (wpAny_of_eq (a := Value.none) (by first | rfl | (simp only [firstArgMember]; rfl)) ?_)
      refine wpAny_newObj_type ?_ (by size_fits)
      simp only [raiseNew]
      refine wpAny_bind (wpAny_bind (wpAny_handled ?_))
      rw [show A.in1.handled = none from o.hd]
      refine wpAny_throw ?_
      refine wpAny_bind (wpAny_isInstance (T := "StopIteration") (b := true) ⟨_, Heap.get?_push_size _ rfl, rfl⟩ isSubtype_stop ?_)
      exact wpAny_pure (q _ _ R' _ kR (S'.ext ((Sub.push _ _).trans (Sub.push _ _))) fun b => bare_set (bare_set b rfl) rfl)
    | cons gp gs' =>
      obtain ⟨v, kk, l, c', p, fs, h', tk', R', ld', rfl, hf, rfl, kR, S', hT, N⟩ := z
      refine wpAny_pure ⟨v, rfl, wpAny_pure (q v h' tk' R' ld' _ _ kR S' hT (Array.getElem?_setIfInBounds_self_of_lt hst) (fun b => bare_set (bare_set b rfl) ?_) ?_)⟩
      · show (!(false || fs.any Frame.guarded)) = true
        rw [hf]; rfl
      · intro A3 R3 rest3 h3 g3 dr3 tk3 os3 o3 k3 T3 S3
        exact N A3 R3 rest3 h3 g3 dr3 tk3 os3 o3 k3 T3 S3
end
end Fw

namespace Fw
open PySem PySem.W PySem.W.X PyProof.Rows PySem.Spec PySem.Calls

section
variable {w : World} {mg mb : Str → Option Value} {A : Around} {E : Value → Shared → Prop} {R h : Heap} {g : Array GenState} {dr : Drawn} {tk : Nat} {os : OsState} {env : Env} {led : Led}

def TagsL (R : Heap) (tl : Addr) (ts : List Pair) : Prop := ∃ vts n o, R.get? tl = some o ∧ o.cls = .type "list" ∧ o.data = .seq (List.toArray vts) n ∧ All2 (TagAt R) vts ts
theorem TagsL.up {R R' : Heap} (k : Sub R R') {tl ts} (x : TagsL R tl ts) : TagsL R' tl ts := let ⟨vts, n, o, e, c, d, a⟩ := x; ⟨vts, n, o, k _ _ e, c, d, a.mono fun _ _ => TagAt.up k⟩

theorem run_fresh {tl L : Addr} {ts : List Pair} {sc : Int} {tok : Tok} {m : Str → Option Value} (X : TagsL R tl ts) (lenb : ts.length ≤ 100) (hm1 : m "tags" = some (.ref tl)) (hm2 : m "splitcode" = some (.int sc tok)) :
    Run w mg mb (emit sc none ts) R [(L, NsO m)] (.fresh (.func (gbody w) (genv w L))) := by
  intro A R2 rest h2 g2 dr tk os o k T S
  show SegX _ _ _ _ _ _ _
  have od : Aok 280 (A.over (.func (gbody w) (genv w L)) []) := Aok.over0 o _ _
  refine sx_func ?_
  refine sx_execs_cons ?_
  refine sx_plain ?_
  refine wpAny_Assign_Name ?_
  refine Constant_none ?_
  refine st_local S rfl (by kernel_rfl) (fun h₁ tk₁ S1 hs₁ => ?_) (by kernel_rfl)
  refine sx_execs_cons ?_
  refine sx_For rfl ?_
  obtain ⟨vts, n, lo, elo, clo, dlo, all⟩ := X.up k
  refine ld_local (by kernel_rfl) (NsO.ns S1.head) (v := .ref tl) ((upd_ne (by decide)).trans hm1) ?_ (by kernel_rfl)
  refine wpAny_pyIter_list ⟨lo, S1.sub _ _ elo, clo, n, dlo⟩ ?_
  intro kf l p hkf
  have S2 := (S1.push (o := { cls := .type "list_iterator", data := .fields #[.ref tl, .int 0 0] }) (P := LiO tl 0) ⟨rfl, rfl⟩).swap
  refine loopSeg tl ts sc L _ lenb ts 0 none rfl (fun gp e => nomatch e) A R2 rest _ g2 dr tk₁ os kf l p o T ⟨_, [], .none, tok, lo, vts, n, S2, (upd_ne (by decide)).trans hm2, upd_self, .none, elo, dlo, all⟩ ?_
  intro f
  rw [hkf]
  cases f <;> rfl

theorem not_cell_of {l : List (Str × NameKind)} (e : l.all (fun x => x.2 != .cell) = true) : ∀ x ∈ l, x.2 ≠ .cell := fun x hx z => by
  have := List.all_eq_true.mp e x hx
  rw [z] at this; cases this
theorem call_group {tl : Addr} {ts : List Pair} {sc : Int} {vals : List Value} {Q : Value → Shared → Prop} (o : Aok 60 A) (T : Stat w mg mb R) (S : St R led h) (X : TagsL R tl ts) (lenb : ts.length ≤ 100)
    (hv : (vals = [.ref tl] ∧ sc = 0) ∨ ∃ tok, vals = [.ref tl, .int sc tok])
    (q : ∀ a h' tk' R' L m gst, Sub R R' → St R' ((L, NsO m) :: led) h' → R'.IsGen a g.size → Run w mg mb (emit sc none ts) R' [(L, NsO m)] gst → gst.bare = true → Q (.ref a) ⟨h', g.push gst, dr, tk', os⟩) :
    wpAny (MD w) A (PySem.call (.ref 375) vals) Q E ⟨h, g, dr, tk, os⟩ := by
  have Xh : (KF w).In h := KIn.up T.K S.sub
  obtain ⟨oo, ho, hd⟩ := fn_at Xh (f := 375) (by kernel_rfl)
  have hb : ∃ tok, BindsTo ⟨h, g, dr, tk, os⟩ (fnAt w 375) ⟨vals, []⟩ [("tags", .ref tl), ("splitcode", .int sc tok)] := by
    rcases hv with ⟨rfl, rfl⟩ | ⟨tok, rfl⟩
    · exact ⟨248, kp_binds Xh fun S => by kernel_rfl⟩
    · exact ⟨tok, kp_binds Xh fun S => by kernel_rfl⟩
  obtain ⟨tok, hb⟩ := hb
  refine wpAny_call ?_
  refine codeAny_call_generator (body := gbody w) (by have := o.dep; show A.depth < recursionLimit; unfold recursionLimit; omega) ho hd (by kernel_rfl) (by kernel_rfl) (by with_unfolding_all rfl) (codeRec_of Xh (by kernel_rfl)) ?_
  refine hb _ _ _ _ ?_
  refine wpAny_newFunctionEnv (fun x hx => ?_) (fun x hx => ?_) (fun h' hn hs => ?_) (by kernel_rfl)
  · exact (not_cell_of (l := (fnAt w 375).scope.names) (by kernel_rfl)) x hx
  · rcases List.mem_cons.mp hx with rfl | hx
    · kernel_rfl
    · rcases List.mem_cons.mp hx with rfl | hx
      · kernel_rfl
      · cases hx
  · have hk : Sub h h' := fun b o' e => hs.extBut b o' (Nat.ne_of_lt (Heap.lt_size e)) (Heap.get?_push_of_some _ e)
    refine ⟨(T.lim.keeps S.sub).keeps hk, ?_⟩
    have hnone : h.get? h.objs.size = none := by
      cases q : h.get? h.objs.size with
      | none => rfl
      | some o => exact absurd (Heap.lt_size q) (Nat.lt_irrefl _)
    obtain ⟨fo, efo, qfo⟩ := NsO.of hn
    have S1 := S.addNew (P := NsO fun x => (List.reverse [(("tags" : Str), Value.ref tl), ("splitcode", .int sc tok)]).lookup x) hk efo hnone qfo
    generalize hgo : (Obj.mk _ _ _ _ : Obj) = go
    have S2 := S1.ext (Sub.push h' go)
    obtain ⟨R', kR, S3, fr⟩ := S2.frz
    have ega : (h'.push go).get? h'.objs.size = some go := Heap.get?_push_size _ (by rw [← hgo]; rfl)
    have hnone' : h'.get? h'.objs.size = none := by
      cases q : h'.get? h'.objs.size with
      | none => rfl
      | some o => exact absurd (Heap.lt_size q) (Nat.lt_irrefl _)
    have ega' := fr _ _ ega (S1.not_led_new (h' := h') hnone')
    subst hgo
    exact q h'.objs.size _ _ R' h.objs.size _ _ kR S3 ⟨_, _, _, ega', rfl, rfl, rfl⟩ (run_fresh (X.up kR) lenb rfl rfl) rfl
end
end Fw

namespace Fw
open PySem PySem.W PySem.W.X PyProof.Rows PySem.Spec PySem.Calls

section
variable {w : World} {mg mb : Str → Option Value} {A : Around} {E : Value → Shared → Prop} {R h : Heap} {g : Array GenState} {dr : Drawn} {tk : Nat} {os : OsState} {env : Env} {led rest : Led} {δ ε : Type}

/-- no tuple of the iterator's own is handed out -/
def NoOwn (w : World) (it : Value) (h : Heap) : Prop := ∀ A target v g dr tk os (Q : Unit → Shared → Prop) E, Q () ⟨h, g, dr, tk, os⟩ → wpAny (MD w) A (letOwnedTupleGo target it v) Q E ⟨h, g, dr, tk, os⟩
theorem NoOwn.of {r : Addr} {o : Obj} {T : String} (e : h.get? r = some o) (hc : o.cls = .type T) (hT : ["enumerate", "zip", "dict_itemiterator", "dict_reverseitemiterator", "odict_iterator", "itertools.zip_longest", "itertools.pairwise"].contains T = false) : NoOwn w (.ref r) h := by
  intro A target v g dr tk os Q E q
  unfold letOwnedTupleGo
  have key : wpAny (MD w) A (do
      let (.ref r, .ref a) := (Value.ref r, v) | return
      let o ← load r
      match o.cls, o.data with
      | .type n, .fields vs =>
        if ["enumerate", "zip", "dict_itemiterator", "dict_reverseitemiterator", "odict_iterator", "itertools.zip_longest", "itertools.pairwise"].contains n && vs[0]? == some (rawInt a) then
          rule "for.unpacks-the-owned-tuple"
          updateField r 0 .none
      | _, _ => pure ()) Q E ⟨h, g, dr, tk, os⟩ := by
    cases v with
    | ref a =>
      refine wpAny_bind (wpAny_load e ?_)
      rw [hc]
      cases hd : o.data with
      | fields vs =>
        simp only [hT, Bool.false_and, Bool.false_eq_true, if_false]
        exact wpAny_pure q
      | _ => exact wpAny_pure q
    | _ => exact wpAny_pure q
  split
  · exact key
  · exact key
  · exact wpAny_pure q

def GG (fr : Bool) (g g' : Array GenState) : Prop := (AllBare g → AllBare g') ∧ (fr = true → g' = g)
theorem GG.refl {fr : Bool} {g : Array GenState} : GG fr g g := ⟨fun b => b, fun _ => rfl⟩
theorem GG.trans {fr : Bool} {a b c : Array GenState} (x : GG fr a b) (y : GG fr b c) : GG fr a c := ⟨fun z => y.1 (x.1 z), fun e => (y.2 e).trans (x.2 e)⟩
/-- an iterator: what its draws bring, one after the other -/
def Itr (w : World) (mg mb : Str → Option Value) (fr : Bool) (V : Heap → Value → δ → Prop) (it : Value) : List δ → Heap → Led → (Array GenState → Prop) → Prop
  | [], R, ld, G => ∀ A R2 rest h g dr tk os (Q : Option Value → Shared → Prop) E, Aok 340 A → Sub R R2 → Stat w mg mb R2 → St R2 (ld ++ rest) h → G g →
      (∀ h' tk' R' g', Sub R2 R' → St R' rest h' → GG fr g g' → Q none ⟨h', g', dr, tk', os⟩) → wpAny (MD w) A (pyNext it) Q E ⟨h, g, dr, tk, os⟩
  | d :: ds, R, ld, G => ∀ A R2 rest h g dr tk os (Q : Option Value → Shared → Prop) E, Aok 340 A → Sub R R2 → Stat w mg mb R2 → St R2 (ld ++ rest) h → G g →
      (∀ v h' tk' R' g' ld' (G' : Array GenState → Prop), Sub R2 R' → St R' (ld' ++ rest) h' → GG fr g g' → V R' v d → G' g' → (fr = true → ∀ g, G' g) → NoOwn w it h' → Itr w mg mb fr V it ds R' ld' G' → Q (some v) ⟨h', g', dr, tk', os⟩) →
      wpAny (MD w) A (pyNext it) Q E ⟨h, g, dr, tk, os⟩
theorem Itr.up {fr : Bool} {V : Heap → Value → δ → Prop} {it : Value} {R' : Heap} {ld : Led} {G : Array GenState → Prop} (k : Sub R R') : ∀ {ds : List δ}, Itr w mg mb fr V it ds R ld G → Itr w mg mb fr V it ds R' ld G
  | [], x => fun A R2 rest h g dr tk os Q E o k2 => x A R2 rest h g dr tk os Q E o (k.trans k2)
  | _ :: _, x => fun A R2 rest h g dr tk os Q E o k2 => x A R2 rest h g dr tk os Q E o (k.trans k2)
/-- it is its own iterator -/
def Self (w : World) (it : Value) (R : Heap) (ld : Led) : Prop := ∀ A R2 rest h g dr tk os (Q : Value → Shared → Prop) E, Sub R R2 → St R2 (ld ++ rest) h → Q it ⟨h, g, dr, tk, os⟩ → wpAny (MD w) A (pyIter it) Q E ⟨h, g, dr, tk, os⟩

theorem itr_seq {V : Heap → Value → δ → Prop} (Vm : ∀ R R' v d, Sub R R' → V R v d → V R' v d) {it l : Addr} : ∀ {ds : List δ} {i : Nat} {R : Heap} {vs : List Value} {o : Obj} {n : Nat},
    R.get? l = some o → o.data = .seq vs.toArray n → All2 (V R) (vs.drop i) ds → Itr w mg mb true V (.ref it) ds R [(it, LiO l i)] fun _ => True
  | [], i, R, vs, o, n, e, d, x => fun A R2 rest h g dr tk os Q E oA k T S _ q => by
    have hit := S.head
    refine next_end (i := i) oA.hd (by obtain ⟨oi, e, a, b⟩ := hit; exact ⟨oi, e, a, b⟩) (S.sub _ _ (k _ _ e)) d ?_ fun h₁ tk₁ hs hi => ?_
    · have := x.length
      rw [List.length_drop, List.length_nil] at this
      simp; omega
    · obtain ⟨oi, hoi⟩ := hi
      have S1 := S.ch (P' := fun _ => True) hs ⟨oi, hoi, trivial⟩
      exact q h₁ tk₁ R2 g (Sub.refl _) S1.tail .refl
  | dd :: ds, i, R, vs, o, n, e, d, x => fun A R2 rest h g dr tk os Q E oA k T S _ q => by
    have hit := S.head
    cases hdr : vs.drop i with
    | nil => rw [hdr] at x; cases x
    | cons v vs' =>
      rw [hdr] at x
      cases x with
      | cons hv hx =>
        have hvi : vs[i]? = some v := by
          have := congrArg List.head? hdr
          rwa [List.head?_drop] at this
        have hdr' : vs.drop (i + 1) = vs' := by rw [← List.drop_drop, hdr]; rfl
        refine next_item (i := i) (by obtain ⟨oi, e, a, b⟩ := hit; exact ⟨oi, e, a, b⟩) (S.sub _ _ (k _ _ e)) d (x := v) (by simpa using hvi) fun h₁ hs₁ hi₁ => ?_
        have S1 := S.ch (P' := LiO l (i + 1)) hs₁.extBut hi₁
        exact q v h₁ tk R2 g [(it, LiO l (i + 1))] _ (Sub.refl _) S1 .refl (Vm _ _ _ _ k hv) trivial (fun _ _ => trivial) (by obtain ⟨oi, e, a, b⟩ := hi₁; exact NoOwn.of e a (by decide)) (itr_seq Vm (k _ _ e) d (by rw [hdr']; exact hx.mono fun _ _ => Vm _ _ _ _ k))
theorem self_seq {it l : Addr} {i : Nat} : Self w (.ref it) R [(it, LiO l i)] := fun A R2 rest h g dr tk os Q E k S q => by
  obtain ⟨oi, e, a, b⟩ := S.head
  exact wpAny_pyIter_listiter ⟨oi, e, a, b⟩ q

theorem itr_gen {a : Addr} {i : Nat} : ∀ {gs : List (List Pair)} {R : Heap} {ld : Led} {gst : GenState}, R.IsGen a i → Run w mg mb gs R ld gst → Itr w mg mb false TagsAt (.ref a) gs R ld fun g => g[i]? = some gst
  | [], R, ld, gst, hg, X => fun A R2 rest h g dr tk os Q E oA k T S hG q => by
    refine next_gen oA T (hg.keeps k) hG k S X ?_
    intro h' tk' R' g' k' S' b
    exact q h' tk' R' g' k' S' ⟨b, fun z => nomatch z⟩
  | gp :: gs, R, ld, gst, hg, X => fun A R2 rest h g dr tk os Q E oA k T S hG q => by
    refine next_gen oA T (hg.keeps k) hG k S X ?_
    intro v h' tk' R' ld' g' gst' k' S' hT hg' b X'
    exact q v h' tk' R' g' ld' _ k' S' ⟨b, fun z => nomatch z⟩ hT hg' (fun z => nomatch z) (by obtain ⟨o, nm, qn, e, c, d, _⟩ := ((hg.keeps k).keeps k').keeps S'.sub; exact NoOwn.of e c (by decide)) (itr_gen ((hg.keeps k).keeps k') X')
theorem self_gen {a : Addr} {i : Nat} {ld : Led} (hg : R.IsGen a i) : Self w (.ref a) R ld := fun A R2 rest h g dr tk os Q E k S q =>
  wpAny_pyIter_gen ((hg.keeps k).keeps S.sub) q

/-- a loop of the text: `Inv` says what stands ahead of each turn -/
theorem for_rule {fr : Bool} {V : Heap → Value → δ → Prop} {it : Value} {target : Expr} {body : List Stmt} {env : Env} {RR : Result → Shared → Prop} {g₀ : Array GenState} (o : Aok 340 A)
    (Inv : List δ → Heap → Led → Prop) (Im : ∀ ds R R' led, Sub R R' → Inv ds R led → Inv ds R' led)
    (turn : ∀ d ds v R led tail h g tk, Inv (d :: ds) R led → Stat w mg mb R → St R (led ++ tail) h → V R v d → (AllBare g₀ → AllBare g) →
      wpAny (MD w) A (assign target env v) (fun _ s₂ => wpAny (MD w) A (execs body env) (fun f s₃ => match f with
        | .next | .cont => ∃ h' g' tk' R' led', s₃ = ⟨h', g', dr, tk', os⟩ ∧ Sub R R' ∧ St R' (led' ++ tail) h' ∧ Inv ds R' led' ∧ (g' = g ∨ fr = true) ∧ (AllBare g → AllBare g')
        | .brk => RR (.ok .next) s₃
        | .ret v => RR (.ok (.ret v)) s₃) (notedBy (MD w) A env fun e s' => RR (.error e) s') s₂) (notedBy (MD w) A env fun e s' => RR (.error e) s') ⟨h, g, dr, tk, os⟩)
    (fin : ∀ R led h g tk, Inv [] R led → Stat w mg mb R → St R led h → (AllBare g₀ → AllBare g) → RR (.ok .next) ⟨h, g, dr, tk, os⟩)
    {ds : List δ} {ld : Led} {G : Array GenState → Prop} (T : Stat w mg mb R) (S : St R (ld ++ led) h) (I : Itr w mg mb fr V it ds R ld G) (hG : G g) (hI : Inv ds R led) (hb : AllBare g₀ → AllBare g)
    (ht : ∀ v, letOwnedTupleGo target it v = pure () := by intro _; rfl) : codeAny (MD w) A (.forLoop target it body [] env) RR ⟨h, g, dr, tk, os⟩ := by
  refine codeAny_forLoop (fun n s => ∃ ds R ld led G h g tk, n = ds.length ∧ s = ⟨h, g, dr, tk, os⟩ ∧ Stat w mg mb R ∧ St R (ld ++ led) h ∧ Itr w mg mb fr V it ds R ld G ∧ G g ∧ Inv ds R led ∧ (AllBare g₀ → AllBare g)) ?_ ds.length ⟨ds, R, ld, led, G, h, g, tk, rfl, rfl, T, S, I, hG, hI, hb⟩ ht
  rintro n s ⟨ds, R, ld, led, G, h, g, tk, rfl, rfl, T, S, I, hG, hI, hb⟩
  cases ds with
  | nil =>
    refine I A R led h g dr tk os _ _ o (Sub.refl _) T S hG fun h' tk' R' g' k S' b => ?_
    exact wpAny_execs_nil (fin R' led h' g' tk' (Im _ _ _ _ k hI) (T.up k) S' fun z => b.1 (hb z))
  | cons d ds =>
    refine I A R led h g dr tk os _ _ o (Sub.refl _) T S hG fun v h' tk' R' g' ld' G' k S' b hv hG' hfr hno I' => ?_
    refine wpAny_mono (turn d ds v R' led ld' h' g' tk' (Im _ _ _ _ k hI) (T.up k) (S'.perm List.perm_append_comm) hv fun z => b.1 (hb z)) (fun _ s₂ h₂ => wpAny_mono h₂ (fun f s₃ h₃ => ?_) fun _ _ z => z) fun _ _ z => z
    have key : (∃ h'' g'' tk' R'' led', s₃ = ⟨h'', g'', dr, tk', os⟩ ∧ Sub R' R'' ∧ St R'' (led' ++ ld') h'' ∧ Inv ds R'' led' ∧ (g'' = g' ∨ fr = true) ∧ (AllBare g' → AllBare g'')) → ∃ m, m < (d :: ds).length ∧ ∃ ds R ld led G h g tk, m = ds.length ∧ s₃ = ⟨h, g, dr, tk, os⟩ ∧ Stat w mg mb R ∧ St R (ld ++ led) h ∧ Itr w mg mb fr V it ds R ld G ∧ G g ∧ Inv ds R led ∧ (AllBare g₀ → AllBare g) := by
      rintro ⟨h'', g'', tk'', R'', led'', rfl, k'', S'', hI'', hg'', b''⟩
      refine ⟨ds.length, Nat.lt_succ_self _, ds, R'', ld', led'', G', h'', g'', tk'', rfl, rfl, (T.up k).up k'', S''.perm List.perm_append_comm, I'.up k'', ?_, hI'', fun z => b'' (b.1 (hb z))⟩
      rcases hg'' with rfl | e
      · exact hG'
      · exact hfr e _
    cases f with
    | next => exact key h₃
    | cont => exact key h₃
    | brk => exact h₃
    | ret v => exact h₃

theorem codeAny_compLoop_own {elt target iter : Expr} {ifs : List Expr} {scope : Scope} {pos : Pos} {it acc : Value} {env : Env} {RR : Result → Shared → Prop} {s : Shared} (I : Nat → Shared → Prop)
    (turn : ∀ n s, I n s → wpAny (MD w) A (pyNext it) (fun r s₁ => match r with
      | none => RR (.ok .next) s₁
      | some v => wpAny (MD w) A (letOwnedTupleGo target it v) (fun _ s₁' => wpAny (MD w) A (assign target env v) (fun _ s₂ =>
          wpAny (MD w) A (forIn ifs true fun c r => if r = true then do let ok ← isTrue c env (eval c env); pure (ForInStep.yield ok) else pure (ForInStep.yield r)) (fun ok s₃ =>
            if ok = true then wpAny (MD w) A (eval elt env) (fun x s₄ =>
              wpAny (MD w) A (call (.builtin "list.append") [acc, x]) (fun _ s₅ => ∃ m, m < n ∧ I m s₅) (notedBy (MD w) A env fun e s' => RR (.error e) s') s₄) (notedBy (MD w) A env fun e s' => RR (.error e) s') s₃
            else ∃ m, m < n ∧ I m s₃) (notedBy (MD w) A env fun e s' => RR (.error e) s') s₂) (notedBy (MD w) A env fun e s' => RR (.error e) s') s₁') (notedBy (MD w) A env fun e s' => RR (.error e) s') s₁) (notedBy (MD w) A env fun e s' => RR (.error e) s') s)
    (n : Nat) (h : I n s) : codeAny (MD w) A (.compLoop (.ListComp elt [⟨target, iter, ifs, 0⟩] scope pos) 0 it acc env) RR s := by
  refine codeAny_loop rfl I (fun n s hI => ?_) n h
  show wpAny _ A ((compTurn (.ListComp elt [⟨target, iter, ifs, 0⟩] scope pos) 0 it acc env).onRaise (fun x => do noteFrame x env; theTreesLotGoes x)) _ _ s
  refine wpAny_noted ?_
  rw [compTurn_list]
  refine wpAny_bind (wpAny_standAt (wpAny_bind (wpAny_mono (turn n s hI) (fun r s₁ h₁ => ?_) fun _ _ h' => h')))
  cases r with
  | none => exact wpAny_pure h₁
  | some v =>
    refine wpAny_bind (wpAny_mono h₁ (fun _ s₁' h₁' => ?_) fun _ _ h' => h')
    refine wpAny_bind (wpAny_mono h₁' (fun _ s₂ h₂ => wpAny_bind (wpAny_mono h₂ (fun ok s₃ h₃ => ?_) fun _ _ h' => h')) fun _ _ h' => h')
    cases ok with
    | false => exact wpAny_pure ⟨rfl, h₃⟩
    | true =>
      exact wpAny_bind (wpAny_bind (wpAny_mono h₃ (fun x s₄ h₄ => wpAny_bind (wpAny_mono h₄ (fun _ s₅ h₅ => wpAny_pure (wpAny_pure ⟨rfl, h₅⟩)) fun _ _ h' => h')) fun _ _ h' => h'))

/-- the turns of a list's comprehension -/
theorem comp_loop {fr : Bool} {V : Heap → Value → δ → Prop} {W : Heap → Value → ε → Prop} (Wm : ∀ R R' v e, Sub R R' → W R v e → W R' v e) {F : δ → Option ε} {it : Value} {acc D : Addr} {elt target iter : Expr} {ifs : List Expr} {scope : Scope} {pos : Pos} {env : Env} {RR : Result → Shared → Prop} {g₀ : Array GenState} {R₀ : Heap} (o : Aok 340 A)
    (turn : ∀ d v R m tail h g tk E', Sub R₀ R → Stat w mg mb R → St R ((D, NsO m) :: tail) h → V R v d →
      wpAny (MD w) A (assign target env v) (fun _ s₂ =>
        wpAny (MD w) A (forIn ifs true fun c r => if r = true then do let ok ← isTrue c env (eval c env); pure (ForInStep.yield ok) else pure (ForInStep.yield r)) (fun ok s₃ => match F d with
          | none => ok = false ∧ ∃ h' tk' R' m', s₃ = ⟨h', g, dr, tk', os⟩ ∧ Sub R R' ∧ St R' ((D, NsO m') :: tail) h'
          | some e => ok = true ∧ wpAny (MD w) A (eval elt env) (fun x s₄ => ∃ h' tk' R' m', s₄ = ⟨h', g, dr, tk', os⟩ ∧ Sub R R' ∧ St R' ((D, NsO m') :: tail) h' ∧ W R' x e) E' s₃) E' s₂) E' ⟨h, g, dr, tk, os⟩)
    (fin : ∀ R xs es m h g tk, Sub R₀ R → Stat w mg mb R → St R ((D, NsO m) :: (acc, LsO xs) :: rest) h → All2 (W R) xs.toList es → GG fr g₀ g → es = es₀ → RR (.ok .next) ⟨h, g, dr, tk, os⟩)
    {ds : List δ} {es : List ε} {ld : Led} {G : Array GenState → Prop} {xs : Array Value} {m : Str → Option Value} (hk : Sub R₀ R) (T : Stat w mg mb R) (S : St R ((D, NsO m) :: (acc, LsO xs) :: (ld ++ rest)) h) (I : Itr w mg mb fr V it ds R ld G) (hG : G g) (hb : GG fr g₀ g)
    (hxs : All2 (W R) xs.toList es) (hes : es ++ ds.filterMap F = es₀) (hsz : xs.size + ds.length ≤ 1000) : codeAny (MD w) A (.compLoop (.ListComp elt [⟨target, iter, ifs, 0⟩] scope pos) 0 it (.ref acc) env) RR ⟨h, g, dr, tk, os⟩ := by
  refine codeAny_compLoop_own (fun n s => ∃ ds es R ld G h g tk m xs, n = ds.length ∧ s = ⟨h, g, dr, tk, os⟩ ∧ Sub R₀ R ∧ Stat w mg mb R ∧ St R ((D, NsO m) :: (acc, LsO xs) :: (ld ++ rest)) h ∧ Itr w mg mb fr V it ds R ld G ∧ G g ∧ GG fr g₀ g ∧ All2 (W R) xs.toList es ∧ es ++ ds.filterMap F = es₀ ∧ xs.size + ds.length ≤ 1000) ?_ ds.length ⟨ds, es, R, ld, G, h, g, tk, m, xs, rfl, rfl, hk, T, S, I, hG, hb, hxs, hes, hsz⟩
  rintro n s ⟨ds, es, R, ld, G, h, g, tk, m, xs, rfl, rfl, hk, T, S, I, hG, hb, hxs, hes, hsz⟩
  have pm : ∀ {ld : Led} {p q : Addr × (Obj → Prop)}, List.Perm (p :: q :: (ld ++ rest)) (ld ++ p :: q :: rest) := fun {ld p q} => by
    have := List.perm_middle (l₁ := ld) (l₂ := q :: rest) (a := p)
    exact ((List.perm_middle (l₁ := ld) (l₂ := rest) (a := q)).symm.cons p).trans this.symm
  cases ds with
  | nil =>
    refine I A R ((D, NsO m) :: (acc, LsO xs) :: rest) h g dr tk os _ _ o (Sub.refl _) T (S.perm pm.symm) hG fun h' tk' R' g' k S' b => ?_
    exact fin R' xs es m h' g' tk' (hk.trans k) (T.up k) S' (hxs.mono fun _ _ => Wm _ _ _ _ k) (hb.trans b) (by simpa using hes)
  | cons d ds =>
    refine I A R ((D, NsO m) :: (acc, LsO xs) :: rest) h g dr tk os _ _ o (Sub.refl _) T (S.perm pm.symm) hG fun v h' tk' R' g' ld' G' k S' b hv hG' hfr hno I' => ?_
    refine hno _ _ _ _ _ _ _ _ _ ?_
    refine wpAny_mono (turn d v R' m ((acc, LsO xs) :: (ld' ++ rest)) h' g' tk' _ (hk.trans k) (T.up k) (S'.perm pm) hv) (fun _ s₂ h₂ => wpAny_mono h₂ (fun ok s₃ h₃ => ?_) fun _ _ z => z) fun _ _ z => z
    cases hF : F d with
    | none =>
      rw [hF] at h₃
      obtain ⟨rfl, h'', tk'', R'', m'', rfl, k'', S''⟩ := h₃
      rw [if_neg Bool.false_ne_true]
      refine ⟨ds.length, Nat.lt_succ_self _, ds, es, R'', ld', G', h'', g', tk'', m'', xs, rfl, rfl, hk.trans (k.trans k''), (T.up k).up k'', S'', I'.up k'', hG', hb.trans b, hxs.mono fun _ _ => Wm _ _ _ _ (k.trans k''), ?_, ?_⟩
      · rw [List.filterMap_cons, hF] at hes; exact hes
      · simp at hsz; omega
    | some e =>
      rw [hF] at h₃
      obtain ⟨rfl, h₃⟩ := h₃
      rw [if_pos rfl]
      refine wpAny_mono h₃ (fun x s₄ h₄ => ?_) fun _ _ z => z
      obtain ⟨h'', tk'', R'', m'', rfl, k'', S'', hw⟩ := h₄
      have hsz' : xs.size + 1 + ds.length ≤ 1000 := by simp at hsz; omega
      have S3 := S''.swap
      refine list_append_ls S3.head (fun h₃ hs hp => ?_) (by omega)
      have S4 := (S3.ch (P' := LsO (xs.push x)) hs.extBut hp).swap
      refine ⟨ds.length, Nat.lt_succ_self _, ds, es ++ [e], R'', ld', G', h₃, g', tk'', m'', xs.push x, rfl, rfl, hk.trans (k.trans k''), (T.up k).up k'', S4, I'.up k'', hG', hb.trans b, ?_, ?_, ?_⟩
      · rw [Array.toList_push]; exact (hxs.mono fun _ _ => Wm _ _ _ _ (k.trans k'')).snoc hw
      · rw [List.filterMap_cons, hF] at hes; rw [← hes]; simp
      · rw [Array.size_push]; exact hsz'
end
end Fw

namespace Fw
open PySem PySem.W PySem.W.X PyProof.Rows PySem.Spec PySem.Calls

section
variable {w : World} {mg mb : Str → Option Value} {A : Around} {E : Value → Shared → Prop} {R h : Heap} {g : Array GenState} {dr : Drawn} {tk : Nat} {os : OsState} {env : Env} {led rest : Led} {δ ε : Type}

/-- what a turn of a comprehension has to do -/
def Turn (w : World) (mg mb : Str → Option Value) (A : Around) (dr : Drawn) (os : OsState) (V : Heap → Value → δ → Prop) (W : Heap → Value → ε → Prop) (F : δ → Option ε) (elt target : Expr) (ifs : List Expr) (cenv : Addr → Env) (R₀ : Heap) : Prop :=
  ∀ D d v R m tail h g tk E', Sub R₀ R → Stat w mg mb R → St R ((D, NsO m) :: tail) h → V R v d →
      wpAny (MD w) A (assign target (cenv D) v) (fun _ s₂ =>
        wpAny (MD w) A (forIn ifs true fun c r => if r = true then do let ok ← isTrue c (cenv D) (eval c (cenv D)); pure (ForInStep.yield ok) else pure (ForInStep.yield r)) (fun ok s₃ => match F d with
          | none => ok = false ∧ ∃ h' tk' R' m', s₃ = ⟨h', g, dr, tk', os⟩ ∧ Sub R R' ∧ St R' ((D, NsO m') :: tail) h'
          | some e => ok = true ∧ wpAny (MD w) A (eval elt (cenv D)) (fun x s₄ => ∃ h' tk' R' m', s₄ = ⟨h', g, dr, tk', os⟩ ∧ Sub R R' ∧ St R' ((D, NsO m') :: tail) h' ∧ W R' x e) E' s₃) E' s₂) E' ⟨h, g, dr, tk, os⟩
def ListAt (W : Heap → Value → ε → Prop) (R : Heap) (v : Value) (es : List ε) : Prop := ∃ a o xs, v = .ref a ∧ R.get? a = some o ∧ LsO (List.toArray xs) o ∧ All2 (W R) xs es
theorem ListAt.up {W : Heap → Value → ε → Prop} (Wm : ∀ R R' v e, Sub R R' → W R v e → W R' v e) {R R' : Heap} (k : Sub R R') {v es} (x : ListAt W R v es) : ListAt W R' v es :=
  let ⟨a, o, xs, e, e1, l, z⟩ := x; ⟨a, o, xs, e, k _ _ e1, l, z.mono fun _ _ => Wm _ _ _ _ k⟩
/-- where the source of a comprehension has been reached -/
def Src (w : World) (mg mb : Str → Option Value) (A : Around) (dr : Drawn) (os : OsState) (V : Heap → Value → δ → Prop) (W : Heap → Value → ε → Prop) (F : δ → Option ε) (elt target : Expr) (ifs : List Expr) (cenv : Addr → Env) (rest : Led)
    (D : Bool → Heap → Heap → Array GenState → List ε → Prop) (it : Value) (s₂ : Shared) : Prop :=
  ∃ fr ds R ld G h g tk, s₂ = ⟨h, g, dr, tk, os⟩ ∧ Stat w mg mb R ∧ St R (ld ++ rest) h ∧ Self w it R ld ∧ Itr w mg mb fr V it ds R ld G ∧ G g ∧ ds.length ≤ 1000 ∧ Turn w mg mb A dr os V W F elt target ifs cenv R ∧ D fr R h g (ds.filterMap F)

theorem comp_core {V : Heap → Value → δ → Prop} {W : Heap → Value → ε → Prop} (Wm : ∀ R R' v e, Sub R R' → W R v e → W R' v e) {F : δ → Option ε} {elt target iter : Expr} {ifs : List Expr} {scope : Scope} {pos : Pos} {cl : List (Str × Addr)} {it : Value}
    {RR : Value → Env → Result → Shared → Prop} {ds : List δ} {ld : Led} {G : Array GenState → Prop} {fr : Bool} (o : Aok 340 A) (hcell : ∀ x ∈ scope.names, x.2 ≠ .cell) (hkind : scope.kind = .function)
    (T : Stat w mg mb R) (S : St R (ld ++ rest) h) (hself : Self w it R ld) (I : Itr w mg mb fr V it ds R ld G) (hG : G g) (hsz : ds.length ≤ 1000) (turn : Turn w mg mb A dr os V W F elt target ifs (fun D => compEnvC scope cl D env) R)
    (fin : ∀ acc D xs R' m h' g' tk', Sub R R' → St R' ((D, NsO m) :: (acc, LsO xs) :: rest) h' → All2 (W R') xs.toList (ds.filterMap F) → GG fr g g' → RR (.ref acc) (compEnvC scope cl D env) (.ok .next) ⟨h', g', dr, tk', os⟩) :
    wpAny (MD w) A (newList []) (fun acc s₃ => wpAny (MD w) A (newFunctionEnv scope env.globals cl [] env.qual none .none (some env)) (fun cenv s₄ =>
        codeAny (MD w) A (.compStart (.ListComp elt [⟨target, iter, ifs, 0⟩] scope pos) 0 it acc { cenv with scope := relabel scope env }) (RR acc { cenv with scope := relabel scope env }) s₄) E s₃) E ⟨h, g, dr, tk, os⟩ := by
  refine wpAny_newObj_type (hd := by size_fits) ?_
  refine wpAny_newFunctionEnv hcell (by intro y hy; cases hy) (fun h' hn hs => ?_) hkind
  have S1 := S.push (o := { cls := .type "list", data := .seq #[] }) (P := LsO #[]) (LsO.new #[])
  generalize hh₁ : (h.push _ : Heap) = h₁ at hn hs S1 ⊢
  have hk : Sub h₁ h' := fun b o' e => hs.extBut b o' (Nat.ne_of_lt (Heap.lt_size e)) (Heap.get?_push_of_some _ e)
  have hnone : h₁.get? h₁.objs.size = none := by
    cases q : h₁.get? h₁.objs.size with
    | none => rfl
    | some o => exact absurd (Heap.lt_size q) (Nat.lt_irrefl _)
  obtain ⟨fo, efo, qfo⟩ := NsO.of hn
  have S2 := S1.addNew (P := NsO _) hk efo hnone qfo
  have loop : ∀ tk, codeAny (MD w) A (.compLoop (.ListComp elt [⟨target, iter, ifs, 0⟩] scope pos) 0 it (.ref h.objs.size) (compEnvC scope cl h₁.objs.size env)) (RR (.ref h.objs.size) (compEnvC scope cl h₁.objs.size env)) ⟨h', g, dr, tk, os⟩ := fun tk => by
    refine comp_loop Wm (g₀ := g) (es₀ := ds.filterMap F) o (turn _) (fun R' xs es m h'' g'' tk'' k T' S' hxs hb he => ?_) (es := []) (Sub.refl _) T S2 I hG .refl .nil (by simp) (by simpa using hsz)
    subst he
    exact fin _ _ xs R' m h'' g'' tk'' k S' hxs hb
  refine codeAny_compStart_list (loop _) ?_
  have pm : ∀ {ld : Led} {p q : Addr × (Obj → Prop)}, List.Perm (p :: q :: (ld ++ rest)) (ld ++ p :: q :: rest) := fun {ld p q} => by
    have := List.perm_middle (l₁ := ld) (l₂ := q :: rest) (a := p)
    exact ((List.perm_middle (l₁ := ld) (l₂ := rest) (a := q)).symm.cons p).trans this.symm
  exact hself A R _ h' g dr _ os _ _ (Sub.refl _) (S2.perm pm.symm) (loop _)

theorem names_ok {l : List (Str × NameKind)} (e : l.all (fun x => x.2 != .cell && (x.2 != .local || l.lookup x.1 == some .local)) = true) : (∀ x ∈ l, x.2 ≠ .cell) ∧ ∀ x ∈ l, x.2 = .local → l.lookup x.1 = some .local := by
  refine ⟨fun x hx z => ?_, fun x hx z => ?_⟩
  · have := List.all_eq_true.mp e x hx
    rw [z] at this; cases this
  · have := List.all_eq_true.mp e x hx
    rw [z, Bool.and_eq_true, Bool.or_eq_true] at this
    rcases this.2 with q | q
    · cases q
    · exact eq_of_beq q

theorem St.dropHead {R h h' : Heap} {led : Led} {a : Addr} {P : Obj → Prop} (S : St R ((a, P) :: led) h) (hs : Heap.ExtBut a h h') : St R led h' := by
  have nd := S.nd
  simp only [List.map_cons, List.nodup_cons] at nd
  refine ⟨fun b o e => hs b o (fun q => ?_) (S.sub b o e), fun p hp => ?_, fun p hp => S.off p (.tail _ hp), nd.2⟩
  · subst q; rw [S.off (b, P) (.head _)] at e; cases e
  · obtain ⟨o, e, q⟩ := S.led p (.tail _ hp)
    exact ⟨o, hs _ _ (fun z => nd.1 (z ▸ List.mem_map.mpr ⟨p, hp, rfl⟩)) e, q⟩
/-- a list's comprehension, its list frozen -/
theorem comp_eval (V : Heap → Value → δ → Prop) (W : Heap → Value → ε → Prop) (F : δ → Option ε) (Wm : ∀ R R' v e, Sub R R' → W R v e → W R' v e) {elt target iter : Expr} {ifs : List Expr} {scope : Scope} {pos : Pos} (cl : List (Str × Addr))
    {Q : Value → Shared → Prop} (o : Aok 340 A) (hnm : scope.names.all (fun x => x.2 != .cell && (x.2 != .local || scope.names.lookup x.1 == some .local)) = true) (hkind : scope.kind = .function) (hclos : closureFor scope env = pure cl)
    (first : wpAny (MD w) A (eval iter env) (fun x s₁ => wpAny (MD w) A (pyIter x) (Src w mg mb A dr os V W F elt target ifs (fun D => compEnvC scope cl D env) rest
      fun fr R h₀ g₀ es => ∀ v R' h' g' tk', Sub R R' → St R' rest h' → ListAt W R' v es → GG fr g₀ g' → Q v ⟨h', g', dr, tk', os⟩) E s₁) E ⟨h, g, dr, tk, os⟩)
    (hs : ∀ x, foldedSetIterable iter env x = pure x := by intro _; rfl) :
    wpAny (MD w) A (eval (.ListComp elt [⟨target, iter, ifs, 0⟩] scope pos) env) Q E ⟨h, g, dr, tk, os⟩ := by
  obtain ⟨hcell, hnames⟩ := names_ok hnm
  rw [eval_ListComp]
  refine wpAny_comprehension_free (use := none) rfl hs hclos hkind hnames (wpAny_mono first (fun x s₁ h₁ => wpAny_mono h₁ (fun it s₂ h₂ => ?_) fun _ _ z => z) fun _ _ z => z)
  obtain ⟨fr, ds, R, ld, G, h, g, tk, rfl, T, S, hself, I, hG, hsz, turn, fin⟩ := h₂
  refine comp_core Wm o hcell hkind T S hself I hG hsz turn (RR := fun acc cenv r s' => compPost (MD w) A E none Q acc cenv.locals r s') (fun acc D xs R' m h' g' tk' k S' hxs hb => ?_)
  refine ⟨m, NsO.ns S'.head, fun h'' hs'' => ?_⟩
  have S1 := S'.dropHead hs''.extBut
  obtain ⟨R'', k'', S2, ⟨oo, eo, qo⟩, _⟩ := S1.freezeHead
  exact fin _ R'' h'' g' tk' (k.trans k'') S2 ⟨acc, oo, xs.toList, rfl, eo, qo, hxs.mono fun _ _ => Wm _ _ _ _ k''⟩ hb

/-- a list's comprehension that is bound to a name -/
theorem comp_assign (V : Heap → Value → δ → Prop) (W : Heap → Value → ε → Prop) (F : δ → Option ε) (Wm : ∀ R R' v e, Sub R R' → W R v e → W R' v e) {elt target iter : Expr} {ifs : List Expr} {scope : Scope} {pos spos py : Pos} (cl : List (Str × Addr)) {y : Str} {L : Addr} {m : Str → Option Value}
    {Q : Flow → Shared → Prop} (o : Aok 340 A) (hnm : scope.names.all (fun x => x.2 != .cell && (x.2 != .local || scope.names.lookup x.1 == some .local)) = true) (hkind : scope.kind = .function) (hclos : closureFor scope env = pure cl)
    (hsw : swapsWith (.ListComp elt [⟨target, iter, ifs, 0⟩] scope pos) (some (.Name y py)) spos.line env = pure true) (hy : env.kindOf y = some .local) (hL : env.locals = L) (hp : (env.scope.kind == .class || (env.scope.kind == .module && env.locals != env.globals)) = false)
    (first : wpAny (MD w) A (eval iter env) (fun x s₁ => wpAny (MD w) A (pyIter x) (Src w mg mb A dr os V W F elt target ifs (fun D => compEnvC scope cl D env) ((L, NsO m) :: rest)
      fun fr R h₀ g₀ es => ∀ v R' h' g' tk', Sub R R' → St R' ((L, NsO (upd m y v)) :: rest) h' → ListAt W R' v es → GG fr g₀ g' → Q .next ⟨h', g', dr, tk', os⟩) E s₁) E ⟨h, g, dr, tk, os⟩)
    (hs : ∀ x, foldedSetIterable iter env x = pure x := by intro _; rfl) :
    wpAny (MD w) A (exec (.Assign [.Name y py] (.ListComp elt [⟨target, iter, ifs, 0⟩] scope pos) spos) env) Q E ⟨h, g, dr, tk, os⟩ := by
  obtain ⟨hcell, hnames⟩ := names_ok hnm
  rw [exec_Assign_Name_used _ _ _ _ hsw]
  refine wpAny_bind (wpAny_standAt ?_)
  refine wpAny_bind ?_
  show wpAny _ A (do let _ ← comprehension (.ListComp elt [⟨target, iter, ifs, 0⟩] scope pos) scope env _ (newList []) false (eval iter env) (some (assign (.Name y py) env))) _ _ _
  refine wpAny_bind (wpAny_mono (wpAny_comprehension_free (use := some (assign (.Name y py) env)) (Q := fun _ s' => Q .next s') rfl hs hclos hkind hnames (wpAny_mono first (fun x s₁ h₁ => wpAny_mono h₁ (fun it s₂ h₂ => ?_) fun _ _ z => z) fun _ _ z => z)) (fun _ s' hq => wpAny_pure (wpAny_pure hq)) fun _ _ e => e)
  obtain ⟨fr, ds, R, ld, G, h, g, tk, rfl, T, S, hself, I, hG, hsz, turn, fin⟩ := h₂
  refine comp_core Wm o hcell hkind T S hself I hG hsz turn (RR := fun acc cenv r s' => compPost (MD w) A E (some (assign (.Name y py) env)) (fun _ s => Q .next s) acc cenv.locals r s') (fun acc D xs R' mm h' g' tk' k S' hxs hb => ?_)
  show wpAny _ _ (assign (.Name y py) env (.ref acc)) _ _ _
  refine wpAny_assign_Name ?_
  have S0 : St R' ((L, NsO m) :: (D, NsO mm) :: (acc, LsO xs) :: rest) h' := S'.perm rot3.symm.symm
  refine st_local S0 hL hy (fun h₂ tk₂ S1 hs₂ => ?_) hp
  refine ⟨mm, NsO.ns S1.swap.head, fun h'' hs'' => ?_⟩
  have S2 := S1.swap.dropHead hs''.extBut
  obtain ⟨R'', k'', S3, ⟨oo, eo, qo⟩, _⟩ := S2.swap.freezeHead
  exact fin _ R'' h'' g' tk₂ (k.trans k'') S3 ⟨acc, oo, xs.toList, rfl, eo, qo, hxs.mono fun _ _ => Wm _ _ _ _ k''⟩ hb
end
end Fw

namespace Fw
open PySem PySem.W PySem.W.X PyProof.Rows PySem.Spec PySem.Calls

def PairAt (R : Heap) (v : Value) (p : Pair) : Prop := ∃ a t1 t2 n, v = .ref a ∧ R.get? a = some { cls := .type "tuple", data := .seq #[.int p.1 t1, .str p.2 t2] n }
theorem PairAt.up {R R' : Heap} (k : Sub R R') {v p} (x : PairAt R v p) : PairAt R' v p := let ⟨a, t1, t2, n, e, e1⟩ := x; ⟨a, t1, t2, n, e, k _ _ e1⟩

section
variable {w : World} {mg mb : Str → Option Value} {A : Around} {E : Value → Shared → Prop} {R h : Heap} {g : Array GenState} {dr : Drawn} {tk : Nat} {os : OsState} {env : Env} {led rest : Led} {δ ε : Type}

/-- the names of a scope of the text -/
structure Names (env : Env) (D : Addr) : Prop where
  loc : env.locals = D
  glo : env.globals = mainGlobals
  fn : env.scope.kind = .function
theorem Names.hp {env : Env} {D : Addr} (n : Names env D) : (env.scope.kind == .class || (env.scope.kind == .module && env.locals != env.globals)) = false := by rw [n.fn]; rfl

theorem st_name {D : Addr} {x : Str} {v : Value} {m : Str → Option Value} {px : Pos} {Q : Unit → Shared → Prop} (S : St R ((D, NsO m) :: led) h) (n : Names env D) (hl : env.kindOf x = some .local)
    (q : ∀ h' tk', St R ((D, NsO (upd m x v)) :: led) h' → Q () ⟨h', g, dr, tk', os⟩) : wpAny (MD w) A (assign (.Name x px) env v) Q E ⟨h, g, dr, tk, os⟩ :=
  wpAny_assign_Name (st_local S n.loc hl (fun h' tk' S' _ => q h' tk' S') n.hp)
theorem ld_name {D : Addr} {x : Str} {v : Value} {m : Str → Option Value} {px : Pos} {Q : Value → Shared → Prop} (S : St R ((D, NsO m) :: led) h) (n : Names env D) (hl : env.kindOf x = some .local) (hm : m x = some v)
    (q : Q v ⟨h, g, dr, tk, os⟩) (hd : (x == ("__debug__" : Str)) = false := by decide) : wpAny (MD w) A (eval (.Name x px) env) Q E ⟨h, g, dr, tk, os⟩ := by
  obtain ⟨rfl, _, hk⟩ := n
  exact ld_local hl (NsO.ns S.head) hm q hk hd

theorem assign_pair {D : Addr} {x y : Str} {v : Value} {p : Pair} {m : Str → Option Value} {px py pt : Pos} {x1} {Q : Unit → Shared → Prop} (hh : A.handled = none) (S : St R ((D, NsO m) :: led) h) (n : Names env D) (hx : env.kindOf x = some .local) (hy : env.kindOf y = some .local)
    (hv : PairAt R v p)
    (q : ∀ h' tk' t1 t2, St R ((D, NsO (upd (upd m x (.int p.1 t1)) y (.str p.2 t2))) :: led) h' → Q () ⟨h', g, dr, tk', os⟩) : wpAny (MD w) A (assign (.Tuple [.Name x px, .Name y py] x1 pt) env v) Q E ⟨h, g, dr, tk, os⟩ := by
  obtain ⟨a, t1, t2, k, rfl, e⟩ := hv
  refine wpAny_assign_Tuple hh ⟨_, S.sub _ _ e, rfl, k, rfl⟩ rfl rfl fun h' hk => ?_
  have S1 : St R ((D, NsO m) :: led) h' := S.ext fun b o eb => hk b o (Nat.ne_of_lt (Heap.lt_size eb)) eb
  show wpAny _ _ (assignInOrder [assign (.Name x px) env, assign (.Name y py) env] [.int p.1 t1, .str p.2 t2]) _ _ _
  unfold assignInOrder
  refine wpAny_bind (wpAny_holding ?_)
  refine st_name S1 n hx fun h₂ tk₂ S2 => ?_
  unfold assignInOrder
  refine wpAny_bind (wpAny_holding ?_)
  refine st_name S2 n hy fun h₃ tk₃ S3 => ?_
  exact wpAny_pure (q h₃ tk₃ t1 t2 S3)

theorem call_DXFTag {c : Int} {x : Str} {t1 t2 : Tok} {Q : Value → Shared → Prop} (o : Aok 100 A) (X : (KF w).In h)
    (q : ∀ h' tk' a d, Sub h h' → h'.get? a = some (tagObj d c t1 x t2) → h'.get? d = some emptyDict → h.get? a = none → h.get? d = none → Q (.ref a) ⟨h', g, dr, tk', os⟩) :
    wpAny (MD w) A (PySem.call (.ref 149) [.int c t1, .str x t2]) Q E ⟨h, g, dr, tk, os⟩ := by
  refine wpAny_mono (wpAny_AB o (mkTag_run w h g dr tk os X c x t1 t2)) ?_ fun _ _ z => False.elim z
  rintro v s' ⟨h', tk', a, d, rfl, rfl, k, ⟨e1, n1⟩, e2, n2⟩
  exact q h' tk' a d k e1 e2 n1 n2

theorem turn_tag {cenv : Addr → Env} {p1 p2 p3 p4 p5 p6 p7 x1} (hn : ∀ D, Names (cenv D) D) (hc : ∀ D, (cenv D).kindOf "code" = some .local) (hv : ∀ D, (cenv D).kindOf "value" = some .local) (hgl : ∀ D, (cenv D).kindOf "DXFTag" = some .globalImplicit) (o : Aok 120 A) :
    Turn w mg mb A dr os PairAt TagAt some (.Call (.Name "DXFTag" p1) [.Name "code" p2, .Name "value" p3] [] p4) (.Tuple [.Name "code" p5, .Name "value" p6] x1 p7) [] cenv R := by
  intro D d v R m tail h g tk E' k T S hp
  refine assign_pair o.hd S (hn D) (hc D) (hv D) hp fun h₁ tk₁ t1 t2 S1 => ?_
  refine wpAny_tests_nil ⟨rfl, ?_⟩
  have X1 : (KF w).In h₁ := KIn.up T.K S1.sub
  refine wpAny_Call_ofName ?_
  refine ld_global (T.up S1.sub) (v := .ref 149) (by kernel_rfl) ?_ (hn D).glo (hn D).fn (hgl D)
  refine callWith_K T.K (by kernel_rfl) ?_
  refine Calls.spliced_cons ?_
  refine ld_name S1 (hn D) (hc D) (v := .int d.1 t1) rfl ?_
  refine Calls.spliced_cons ?_
  refine ld_name S1 (hn D) (hv D) (v := .str d.2 t2) rfl ?_
  refine Calls.spliced_nil ⟨X1, ?_⟩
  refine call_DXFTag (o.less 100 (by decide)) X1 fun h₂ tk₂ a dd k₂ e1 e2 n1 n2 => ?_
  have S2 := S1.ext k₂
  obtain ⟨R', kR, S3, fr⟩ := S2.frz
  exact ⟨h₂, tk₂, R', _, rfl, kR, S3, a, dd, t1, t2, rfl, fr _ _ e1 (S1.not_led_new (h' := h₁) n1), fr _ _ e2 (S1.not_led_new (h' := h₁) n2)⟩
end
end Fw

namespace Fw
open PySem PySem.W PySem.W.X PyProof.Rows PySem.Spec PySem.Calls

section
variable {w : World} {mg mb : Str → Option Value} {A : Around} {E : Value → Shared → Prop} {R h : Heap} {g : Array GenState} {dr : Drawn} {tk : Nat} {os : OsState} {env : Env} {led rest : Led} {δ ε : Type}

theorem src_list {V : Heap → Value → δ → Prop} (Vm : ∀ R R' v d, Sub R R' → V R v d → V R' v d) {W : Heap → Value → ε → Prop} {F : δ → Option ε} {elt target : Expr} {ifs : List Expr} {cenv : Addr → Env} {D : Bool → Heap → Heap → Array GenState → List ε → Prop} {v : Value} {ds : List δ}
    (T : Stat w mg mb R) (S : St R rest h) (X : ListAt V R v ds) (hlen : ds.length ≤ 1000) (turn : Turn w mg mb A dr os V W F elt target ifs cenv R) (q : ∀ h', D true R h' g (ds.filterMap F)) :
    wpAny (MD w) A (pyIter v) (Src w mg mb A dr os V W F elt target ifs cenv rest D) E ⟨h, g, dr, tk, os⟩ := by
  obtain ⟨a, o, xs, rfl, e, l, z⟩ := X
  have hl : h.IsList a xs.toArray := LsO.isList ⟨o, S.sub _ _ e, l⟩
  refine wpAny_pyIter_list hl ?_
  obtain ⟨n, rfl⟩ := l
  exact ⟨true, ds, R, [(_, LiO a 0)], fun _ => True, _, g, tk, rfl, T, S.push (o := { cls := .type "list_iterator", data := .fields #[.ref a, .int 0 0] }) (P := LiO a 0) ⟨rfl, rfl⟩, self_seq, itr_seq Vm e rfl (by rw [List.drop_zero]; exact z), trivial, hlen, turn, q _⟩

theorem src_tags {W : Heap → Value → ε → Prop} {F : Pair → Option ε} {elt target : Expr} {ifs : List Expr} {cenv : Addr → Env} {D : Bool → Heap → Heap → Array GenState → List ε → Prop} {v : Value} {ds : List Pair} (o : Aok 150 A)
    (T : Stat w mg mb R) (S : St R rest h) (X : TagsAt R v ds) (turn : Turn w mg mb A dr os TagAt W F elt target ifs cenv R) (q : ∀ h', D true R h' g (ds.filterMap F)) :
    wpAny (MD w) A (pyIter v) (Src w mg mb A dr os TagAt W F elt target ifs cenv rest D) E ⟨h, g, dr, tk, os⟩ := by
  obtain ⟨a, d, vs, n, rfl, e, ed, z, hlen⟩ := X
  rw [z.length] at hlen
  refine pyIter_tags (o.less 120 (by decide)) (KIn.up T.K S.sub) (S.sub _ _ e) (S.sub _ _ ed) fun h' tk' i k ei en => ?_
  exact ⟨true, ds, R, [(i, LiO a 0)], fun _ => True, _, g, tk', rfl, T, S.addNew (P := LiO a 0) k ei en ⟨rfl, rfl⟩, self_seq, itr_seq (V := TagAt) (fun _ _ _ _ k => TagAt.up k) e rfl (by rw [List.drop_zero]; exact z), trivial, by omega, turn, q _⟩

theorem names_comp {D0 D : Addr} {scope : Scope} {cl : List (Str × Addr)} (n : Names env D0) (hk : scope.kind = .function) : Names (compEnvC scope cl D env) D := ⟨rfl, n.glo, hk⟩

theorem turn_pair {cenv : Addr → Env} {p1 p2 p3 p4 p5 p6 x1} (hn : ∀ D, Names (cenv D) D) (ht : ∀ D, (cenv D).kindOf "tag" = some .local) (o : Aok 120 A) :
    Turn w mg mb A dr os TagAt PairAt some (.Tuple [.Attribute (.Name "tag" p1) "code" p2, .Attribute (.Name "tag" p3) "value" p4] x1 p5) (.Name "tag" p6) [] cenv R := by
  intro D d v R m tail h g tk E' k T S hp
  obtain ⟨a, dd, t1, t2, rfl, e1, e2⟩ := hp
  refine st_name S (hn D) (ht D) fun h₁ tk₁ S1 => ?_
  refine wpAny_tests_nil ⟨rfl, ?_⟩
  refine wpAny_Tuple_spliced ?_
  refine Calls.spliced_cons ?_
  refine Attribute_Name_ ?_
  refine ld_name S1 (hn D) (ht D) (v := .ref a) upd_self ?_
  refine attr_code (o.less 120 (by decide)) (KIn.up T.K S1.sub) (S1.sub _ _ e1) (S1.sub _ _ e2) fun h₂ tk₂ k₂ => ?_
  have S2 := S1.ext k₂
  refine Calls.spliced_cons ?_
  refine Attribute_Name_ ?_
  refine ld_name S2 (hn D) (ht D) (v := .ref a) upd_self ?_
  refine attr_value (o.less 120 (by decide)) (KIn.up T.K S2.sub) (S2.sub _ _ e1) (S2.sub _ _ e2) fun h₃ tk₃ k₃ => ?_
  have S3 := S2.ext k₃
  refine Calls.spliced_nil ⟨Nat.le_of_ble_eq_true rfl, ?_⟩
  have S4 := (S3.push (o := { cls := .type "tuple", data := .seq #[.int d.1 t1, .str d.2 t2] }) (P := (· = { cls := .type "tuple", data := .seq #[.int d.1 t1, .str d.2 t2] })) rfl)
  obtain ⟨R', kR, S5, ⟨oo, eo, rfl⟩, _⟩ := S4.freezeHead
  exact ⟨_, tk₃, R', _, rfl, kR, S5, _, t1, t2, 0, rfl, eo⟩

def StrAt (_ : Heap) (v : Value) (x : Str) : Prop := ∃ t, v = .str x t
theorem turn_val {cenv : Addr → Env} {p1 p2 p6} (hn : ∀ D, Names (cenv D) D) (ht : ∀ D, (cenv D).kindOf "tag" = some .local) (o : Aok 120 A) :
    Turn w mg mb A dr os TagAt StrAt (fun p => some p.2) (.Attribute (.Name "tag" p1) "value" p2) (.Name "tag" p6) [] cenv R := by
  intro D d v R m tail h g tk E' k T S hp
  obtain ⟨a, dd, t1, t2, rfl, e1, e2⟩ := hp
  refine st_name S (hn D) (ht D) fun h₁ tk₁ S1 => ?_
  refine wpAny_tests_nil ⟨rfl, ?_⟩
  refine Attribute_Name_ ?_
  refine ld_name S1 (hn D) (ht D) (v := .ref a) upd_self ?_
  refine attr_value (o.less 120 (by decide)) (KIn.up T.K S1.sub) (S1.sub _ _ e1) (S1.sub _ _ e2) fun h₃ tk₃ k₃ => ?_
  exact ⟨_, tk₃, _, _, rfl, Sub.refl _, S1.ext k₃, t2, rfl⟩

/-- a turn whose element is a comprehension over the tags of the turn's group -/
theorem turn_group {W : Heap → Value → ε → Prop} (Wm : ∀ R R' v e, Sub R R' → W R v e → W R' v e) {F : Pair → Option ε} {cenv : Addr → Env} {elt target : Expr} {scope : Scope} {p1 p2 p3} (hn : ∀ D, Names (cenv D) D) (ht : ∀ D, (cenv D).kindOf "group" = some .local)
    (hnm : scope.names.all (fun x => x.2 != .cell && (x.2 != .local || scope.names.lookup x.1 == some .local)) = true) (hkind : scope.kind = .function) (hclos : ∀ D, closureFor scope (cenv D) = pure [])
    (o : Aok 340 A)
    (turn : ∀ D R, Turn w mg mb A dr os TagAt W F elt target [] (fun D' => compEnvC scope [] D' (cenv D)) R) :
    Turn w mg mb A dr os TagsAt (ListAt W) (fun gp => some (gp.filterMap F)) (.ListComp elt [⟨target, .Name "group" p1, [], 0⟩] scope p2) (.Name "group" p3) [] cenv R := by
  intro D gp v R m tail h g tk E' k T S hp
  refine st_name S (hn D) (ht D) fun h₁ tk₁ S1 => ?_
  refine wpAny_tests_nil ⟨rfl, ?_⟩
  refine comp_eval (mg := mg) (mb := mb) (rest := (D, NsO (upd m "group" v)) :: tail) TagAt W F Wm [] o hnm hkind (hclos D) ?_
  refine ld_name S1 (hn D) (ht D) (v := v) upd_self ?_
  refine src_tags (o.less 150 (by decide)) T S1 hp (turn D R) fun h₂ => ?_
  intro v' R' h' g' tk' k' S' hl hb
  obtain rfl := hb.2 rfl
  exact ⟨h', tk', R', _, rfl, k', S', hl⟩
end
end Fw

namespace Fw
open PySem PySem.W PySem.W.X PyProof.Rows PySem.Spec

def isPairO (o : Obj) (p : Pair) : Bool := match o with
  | ⟨.type "tuple", none, .seq ⟨[.int c _, .str x _]⟩ _, ⟨[]⟩⟩ => c == p.1 && x == p.2
  | _ => false
theorem isPairO_ok {o : Obj} {p : Pair} (h : isPairO o p = true) : ∃ t1 t2 n, o = { cls := .type "tuple", data := .seq #[.int p.1 t1, .str p.2 t2] n } := by
  unfold isPairO at h
  split at h
  · rename_i c t1 x t2 n
    rw [Bool.and_eq_true] at h
    obtain ⟨h1, h2⟩ := h
    have h1 := eq_of_beq h1
    have h2 := eq_of_beq h2
    subst h1 h2
    exact ⟨t1, t2, n, rfl⟩
  · cases h
def lawKinds : List Pair := [(0, "SECTION"), (2, "HEADER"), (2, "TABLES"), (0, "ENDSEC"), (0, "EOF"), (0, "LINE"), (8, "a"), (5, "FF")]
/-- a list of fresh pairs -/
def MkPairs (ps : List Pair) (h : Heap) (g : Array GenState) (dr : Drawn) (os : OsState) (v : Value) (s' : Shared) : Prop :=
  ∃ h' tk' a xs, s' = ⟨h', g, dr, tk', os⟩ ∧ v = .ref a ∧ Sub h h' ∧ h'.get? a = some { cls := .type "list", data := .seq (List.toArray xs) } ∧ h.get? a = none ∧
    All2 (fun v p => ∃ a t1 t2 n, v = .ref a ∧ h'.get? a = some { cls := .type "tuple", data := .seq #[.int p.1 t1, .str p.2 t2] n } ∧ h.get? a = none) xs ps
theorem pairs_of_news {h h' : Heap} {news : List (Addr × Obj)} (D : Mem h h' [] news) : ∀ (as : List (Addr × Obj)) (ps : List Pair), (∀ p ∈ as, p ∈ news) → (as.zip ps).all (fun q => isPairO q.1.2 q.2) = true → as.length = ps.length →
    All2 (fun v p => ∃ a t1 t2 n, v = .ref a ∧ h'.get? a = some { cls := .type "tuple", data := .seq #[.int p.1 t1, .str p.2 t2] n } ∧ h.get? a = none) (as.map fun q => Value.ref q.1) ps
  | [], [], _, _, _ => .nil
  | [], _ :: _, _, _, e => nomatch e
  | _ :: _, [], _, _, e => nomatch e
  | (a, o) :: as, p :: ps, hm, he, hl => by
    rw [List.zip_cons_cons, List.all_cons, Bool.and_eq_true] at he
    obtain ⟨t1, t2, n, e⟩ := isPairO_ok he.1
    obtain ⟨e1, e2⟩ := Mem.got D (hm (a, o) (.head _)) e
    exact .cons ⟨a, t1, t2, n, rfl, e1, e2⟩ (pairs_of_news D as ps (fun p hp => hm p (.tail _ hp)) he.2 (by simpa using hl))
theorem mkPairs_close {ps : List Pair} {h h' : Heap} {g dr os tk} {l : Addr} {ol : Obj} {rest : List (Addr × Obj)} (D : Mem h h' [] ((l, ol) :: rest)) (hl : ol = { cls := .type "list", data := .seq ((rest.take ps.length).reverse.map fun q => Value.ref q.1).toArray })
    (hp : (((rest.take ps.length).reverse).zip ps).all (fun q => isPairO q.1.2 q.2) = true) (hlen : (rest.take ps.length).reverse.length = ps.length) : MkPairs ps h g dr os (.ref l) ⟨h', g, dr, tk, os⟩ := by
  obtain ⟨e1, e2⟩ := Mem.got D (.head _) hl
  exact ⟨h', tk, l, _, rfl, rfl, Mem.sub D, e1, e2, pairs_of_news D _ _ (fun p hp => .tail _ (List.mem_of_mem_take (List.mem_reverse.mp hp))) hp hlen⟩
local macro_rules | `(tactic| x_close) => `(tactic| ((rename Mem _ _ _ _ => DD); exact mkPairs_close DD (by kernel_rfl) (by kernel_rfl) (by kernel_rfl)))
set_option maxHeartbeats 8000000 in
theorem kinds_run (w : World) (h : Heap) (g : Array GenState) (dr : Drawn) (tk : Nat) (os : OsState) (X : (hd.heap_39 w.params).In h) :
   wpAny (model PySem.Challenge.rw_fw0014_01.row.prog w) AB (PySem.call (.ref 390) []) (MkPairs lawKinds h g dr os) (fun _ _ => False) ⟨h, g, dr, tk, os⟩ := by
  x_run

section
variable {w : World} {mg mb : Str → Option Value} {A : Around} {E : Value → Shared → Prop} {R h : Heap} {g : Array GenState} {dr : Drawn} {tk : Nat} {os : OsState} {env : Env} {led rest : Led} {δ ε : Type}
def MkStr (h : Heap) (g : Array GenState) (dr : Drawn) (os : OsState) (x : Str) (v : Value) (s' : Shared) : Prop := ∃ h' tk' t, s' = ⟨h', g, dr, tk', os⟩ ∧ v = .str x t ∧ Sub h h'
theorem mkStr_close0 {h : Heap} {g dr os tk t} {x y : Str} (e : (x == y) = true) : MkStr h g dr os y (.str x t) ⟨h, g, dr, tk, os⟩ := ⟨h, tk, t, rfl, by rw [eq_of_beq e], Sub.refl _⟩
local macro_rules | `(tactic| x_close) => `(tactic| exact mkStr_close0 (by kernel_rfl))
set_option maxHeartbeats 8000000 in
theorem str0_run (w : World) (h : Heap) (g : Array GenState) (dr : Drawn) (tk : Nat) (os : OsState) (X : (hd.heap_39 w.params).In h) (t : Tok) :
   wpAny (model PySem.Challenge.rw_fw0014_01.row.prog w) AB (PySem.call (.type "str") [.int 0 t]) (MkStr h g dr os "0") (fun _ _ => False) ⟨h, g, dr, tk, os⟩ := by
  x_run
set_option maxHeartbeats 8000000 in
theorem str1_run (w : World) (h : Heap) (g : Array GenState) (dr : Drawn) (tk : Nat) (os : OsState) (X : (hd.heap_39 w.params).In h) (t : Tok) :
   wpAny (model PySem.Challenge.rw_fw0014_01.row.prog w) AB (PySem.call (.type "str") [.int 1 t]) (MkStr h g dr os "1") (fun _ _ => False) ⟨h, g, dr, tk, os⟩ := by
  x_run
set_option maxHeartbeats 8000000 in
theorem str2_run (w : World) (h : Heap) (g : Array GenState) (dr : Drawn) (tk : Nat) (os : OsState) (X : (hd.heap_39 w.params).In h) (t : Tok) :
   wpAny (model PySem.Challenge.rw_fw0014_01.row.prog w) AB (PySem.call (.type "str") [.int 2 t]) (MkStr h g dr os "2") (fun _ _ => False) ⟨h, g, dr, tk, os⟩ := by
  x_run
theorem call_str3 {r : Int} {t : Tok} {Q : Value → Shared → Prop} (o : Aok 100 A) (X : (KF w).In h) (hr : 0 ≤ r ∧ r < 3)
    (q : ∀ (x : Str) t' h' tk', Sub h h' → (x = ("0" : Str) ∨ x = ("1" : Str) ∨ x = ("2" : Str)) → Q (.str x t') ⟨h', g, dr, tk', os⟩) : wpAny (MD w) A (PySem.call (.type "str") [.int r t]) Q E ⟨h, g, dr, tk, os⟩ := by
  have hc : r = 0 ∨ r = 1 ∨ r = 2 := by omega
  rcases hc with rfl | rfl | rfl
  · refine wpAny_mono (wpAny_AB o (str0_run w h g dr tk os X t)) ?_ fun _ _ z => False.elim z
    rintro v s' ⟨h', tk', t', rfl, rfl, k⟩
    exact q _ _ _ _ k (.inl rfl)
  · refine wpAny_mono (wpAny_AB o (str1_run w h g dr tk os X t)) ?_ fun _ _ z => False.elim z
    rintro v s' ⟨h', tk', t', rfl, rfl, k⟩
    exact q _ _ _ _ k (.inr (.inl rfl))
  · refine wpAny_mono (wpAny_AB o (str2_run w h g dr tk os X t)) ?_ fun _ _ z => False.elim z
    rintro v s' ⟨h', tk', t', rfl, rfl, k⟩
    exact q _ _ _ _ k (.inr (.inr rfl))

end
end Fw

namespace Fw
open PySem PySem.W PySem.W.X PyProof.Rows PySem.Spec PySem.Calls

section
variable {w : World} {mg mb : Str → Option Value} {A : Around} {E : Value → Shared → Prop} {R h : Heap} {g : Array GenState} {dr : Drawn} {tk : Nat} {os : OsState} {env : Env} {led rest : Led} {δ ε : Type}

theorem St.addMany {h' : Heap} (k : Sub h h') : ∀ {new : Led}, (∀ p ∈ new, (∃ o, h'.get? p.1 = some o ∧ p.2 o) ∧ h.get? p.1 = none) → (new.map (·.1)).Nodup → St R led h → St R (new ++ led) h'
  | [], _, _, S => S.ext k
  | p :: new, hn, nd, S => by
    have nd' := List.nodup_cons.mp (by rwa [List.map_cons] at nd)
    have S1 := St.addMany k (new := new) (fun q hq => hn q (.tail _ hq)) nd'.2 S
    obtain ⟨⟨o, e, q⟩, n⟩ := hn p (.head _)
    refine ⟨S1.sub, fun x hx => ?_, fun x hx => ?_, ?_⟩
    · rcases List.mem_cons.mp hx with rfl | hx
      · exact ⟨o, e, q⟩
      · exact S1.led x hx
    · rcases List.mem_cons.mp hx with rfl | hx
      · cases z : R.get? x.1 with
        | none => rfl
        | some o' => have := S.sub _ _ z; rw [n] at this; cases this
      · exact S1.off x hx
    · rw [List.cons_append, List.map_cons]
      refine List.nodup_cons.mpr ⟨fun hm => ?_, S1.nd⟩
      rw [List.map_append, List.mem_append] at hm
      rcases hm with hm | hm
      · exact nd'.1 hm
      · exact S.not_led_new (h' := h) n hm

theorem spl_cons {M : Model} {e : Expr} {es : List Expr} {pos : Pos} {s : Shared} {Q : List Value → Shared → Prop}
    (h : wpAny M A (eval e env) (fun v s₁ => wpAny M A (spliced (backTo pos (starEach es env))) (fun vs s₂ => Q (v :: vs) s₂) E s₁) E s)
    (he : starEach (e :: es) env = (false, eval e env) :: starEach es env := by rfl) : wpAny M A (spliced (backTo pos (starEach (e :: es) env))) Q E s := by
  rw [he]; exact Calls.spliced_cons h
theorem spl_nil {M : Model} {pos : Pos} {s : Shared} {Q : List Value → Shared → Prop} (h : Q [] s) : wpAny M A (spliced (backTo pos (starEach [] env))) Q E s := Calls.spliced_nil h
theorem k_int {i : Int} {k : Nat} {pos : Pos} {Q : Value → Shared → Prop} (q : ∀ t tk', Q (.int i t) ⟨h, g, dr, tk', os⟩) : wpAny (MD w) A (eval (.Constant (.int i) k pos) env) Q E ⟨h, g, dr, tk, os⟩ := wpAny_Constant_int (q _ _)
theorem k_str {x : Str} {k : Nat} {pos : Pos} {Q : Value → Shared → Prop} (q : ∀ t tk', Q (.str x t) ⟨h, g, dr, tk', os⟩) : wpAny (MD w) A (eval (.Constant (.str x) k pos) env) Q E ⟨h, g, dr, tk, os⟩ := wpAny_Constant_str (q _ _)
theorem o_fdiv {a b : Int} {t u : Tok} {Q : Value → Shared → Prop} (hb : ¬ (b == 0) = true) (hp : ¬ (Builtin.divisionGoesByPylong a b) = true) (q : ∀ t tk', Q (.int (a.fdiv b) t) ⟨h, g, dr, tk', os⟩) : wpAny (MD w) A (binaryOp .FloorDiv (.int a t) (.int b u)) Q E ⟨h, g, dr, tk, os⟩ :=
  AutoIntOps.floordiv_1 hb hp (by dsimp only [Made.post]; exact q _ _)
theorem o_mod {a b : Int} {t u : Tok} {Q : Value → Shared → Prop} (hb : ¬ (b == 0) = true) (q : ∀ t tk', Q (.int (a.fmod b) t) ⟨h, g, dr, tk', os⟩) : wpAny (MD w) A (binaryOp .Mod (.int a t) (.int b u)) Q E ⟨h, g, dr, tk, os⟩ :=
  AutoIntOps.mod_1 hb (by dsimp only [Made.post]; exact q _ _)
theorem o_add {a b : Int} {t u : Tok} {Q : Value → Shared → Prop} (q : ∀ t tk', Q (.int (a + b) t) ⟨h, g, dr, tk', os⟩) : wpAny (MD w) A (binaryOp .Add (.int a t) (.int b u)) Q E ⟨h, g, dr, tk, os⟩ := PyProof.Rows.add_int (q _ _)
theorem o_sub {a b : Int} {t u : Tok} {Q : Value → Shared → Prop} (q : ∀ t tk', Q (.int (a - b) t) ⟨h, g, dr, tk', os⟩) : wpAny (MD w) A (binaryOp .Sub (.int a t) (.int b u)) Q E ⟨h, g, dr, tk, os⟩ := PyProof.Rows.sub_int (q _ _)
theorem o_cat {x y : Str} {t u : Tok} {Q : Value → Shared → Prop} (hs : x.length + y.length ≤ sizeLine) (q : ∀ t tk', Q (.str (x ++ y) t) ⟨h, g, dr, tk', os⟩) : wpAny (MD w) A (binaryOp .Add (.str x t) (.str y u)) Q E ⟨h, g, dr, tk, os⟩ :=
  PyProof.Rows.add_str (fun t' tk => q _ _) hs
theorem c_type1 {pos : Pos} {T : String} {e : Expr} {Q : Value → Shared → Prop} {s : Shared} (q : wpAny (MD w) A (eval e env) (fun v s₁ => wpAny (MD w) A (call (.type T) [v]) Q E s₁) E s) (he : starEach [e] env = [(false, eval e env)] := by rfl) :
    wpAny (MD w) A (callWith pos (.type T) [] (backTo pos (starEach [e] env)) []) Q E s := by
  rw [he]; exact PySem.callWith_type1 q
theorem e_tuple {elts : List Expr} {x1} {pos : Pos} {Q : Value → Shared → Prop}
    (q : wpAny (MD w) A (spliced (backTo pos (starEach elts env))) (fun vs s₁ => vs.length ≤ 1000 ∧ ∃ h₁ g₁ tk₁ R led, s₁ = ⟨h₁, g₁, dr, tk₁, os⟩ ∧ St R led h₁ ∧
      ∀ a h' R', Sub R R' → St R' led h' → R'.get? a = some { cls := .type "tuple", data := .seq vs.toArray } → Q (.ref a) ⟨h', g₁, dr, tk₁, os⟩) E ⟨h, g, dr, tk, os⟩) : wpAny (MD w) A (eval (.Tuple elts x1 pos) env) Q E ⟨h, g, dr, tk, os⟩ := by
  refine wpAny_Tuple_spliced (wpAny_mono q (fun vs s₁ z => ?_) fun _ _ z => z)
  obtain ⟨hl, h₁, g₁, tk₁, R, led, rfl, S, z⟩ := z
  refine ⟨by rw [sizeLine_eq]; omega, ?_⟩
  obtain ⟨R', kR, S', ⟨oo, eo, rfl⟩, _⟩ := (S.push (o := { cls := .type "tuple", data := .seq vs.toArray }) (P := (· = { cls := .type "tuple", data := .seq vs.toArray })) rfl).freezeHead
  exact z _ _ R' kR S' eo
theorem e_list {elts : List Expr} {pos : Pos} {Q : Value → Shared → Prop}
    (q : wpAny (MD w) A (spliced (backTo pos (starEach elts env))) (fun vs s₁ => vs.length ≤ 1000 ∧ ∃ h₁ g₁ tk₁ R led, s₁ = ⟨h₁, g₁, dr, tk₁, os⟩ ∧ St R led h₁ ∧
      ∀ a h', St R ((a, LsO vs.toArray) :: led) h' → Q (.ref a) ⟨h', g₁, dr, tk₁, os⟩) E ⟨h, g, dr, tk, os⟩) : wpAny (MD w) A (eval (.List elts pos) env) Q E ⟨h, g, dr, tk, os⟩ := by
  refine wpAny_List_spliced (wpAny_mono q (fun vs s₁ z => ?_) fun _ _ z => z)
  obtain ⟨hl, h₁, g₁, tk₁, R, led, rfl, S, z⟩ := z
  refine ⟨by rw [sizeLine_eq]; omega, ?_⟩
  exact z _ _ (S.push (o := { cls := .type "list", data := .seq vs.toArray }) (LsO.new _))
/-- a literal pair -/
theorem e_pair {c : Int} {x : Str} {k1 k2 : Nat} {p1 p2 p3 : Pos} {x1} {Q : Value → Shared → Prop} (S : St R led h) (q : ∀ v h' tk' R', Sub R R' → St R' led h' → PairAt R' v (c, x) → Q v ⟨h', g, dr, tk', os⟩) :
    wpAny (MD w) A (eval (.Tuple [.Constant (.int c) k1 p1, .Constant (.str x) k2 p2] x1 p3) env) Q E ⟨h, g, dr, tk, os⟩ := by
  refine e_tuple ?_
  refine spl_cons ?_
  refine k_int fun t tk1 => ?_
  refine spl_cons ?_
  refine k_str fun t' tk2 => ?_
  refine spl_nil ⟨by show 2 ≤ 1000; omega, h, g, tk2, R, led, rfl, S, fun a h' R' kR S' e => ?_⟩
  exact q _ _ _ R' kR S' ⟨a, t, t', 0, rfl, e⟩
theorem ld_builtin {x : Str} {pos : Pos} {v : Value} {Q : Value → Shared → Prop} (T : Stat w mg mb h) (e : nsIn (KF w) mainGlobals x = some none) (hv : bootBuiltins x = some v) (hn : x ≠ "__name__") (q : Q v ⟨h, g, dr, tk, os⟩)
    (hg : env.globals = mainGlobals) (hb : env.builtins = builtinsNs) (hk : env.scope.kind = .function) (hx : env.kindOf x = some .globalImplicit) (hd : (x == ("__debug__" : Str)) = false := by decide) :
    wpAny (MD w) A (eval (.Name x pos) env) Q E ⟨h, g, dr, tk, os⟩ :=
  Calls.Name_function_global hk hx (Calls.loadGlobal_builtin (env := env) (hg ▸ T.g) (mg_none_of T.K T.g e) (hb ▸ T.b) ((T.bb x hn).trans hv) q) hd

theorem ld_cell {x : Str} {pos : Pos} {c : Addr} {v : Value} {Q : Value → Shared → Prop} (hk : env.scope.kind = .function) (hx : env.kindOf x = some .cell) (hc : env.cells.lookup x = some c) (hv : h.IsCell c (some v)) (q : Q v ⟨h, g, dr, tk, os⟩)
    (hb : (x == ("__debug__" : Str)) = false := by decide) : wpAny (MD w) A (eval (.Name x pos) env) Q E ⟨h, g, dr, tk, os⟩ := wpAny_Name (wpAny_loadName_cell hk hx hc hv q) hb
theorem ld_free {x : Str} {pos : Pos} {c : Addr} {v : Value} {Q : Value → Shared → Prop} (hk : env.scope.kind = .function) (hx : env.kindOf x = some .free) (hc : env.cells.lookup x = some c) (hv : h.IsCell c (some v)) (q : Q v ⟨h, g, dr, tk, os⟩)
    (hb : (x == ("__debug__" : Str)) = false := by decide) (hn : (x == ("__classdict__" : Str)) = false := by decide) : wpAny (MD w) A (eval (.Name x pos) env) Q E ⟨h, g, dr, tk, os⟩ := wpAny_Name (wpAny_loadName_free hk hx hc hv q hn) hb
theorem st_cell {x : Str} {c : Addr} {v : Value} {v₀ : Option Value} {Q : Unit → Shared → Prop} (hk : env.scope.kind = .function) (hx : env.kindOf x = some .cell) (hc : env.cells.lookup x = some c) (S : St R ((c, CeO v₀) :: led) h)
    (q : ∀ h', St R ((c, CeO (some v)) :: led) h' → Q () ⟨h', g, dr, tk, os⟩) : wpAny (MD w) A (storeName env x v) Q E ⟨h, g, dr, tk, os⟩ := by
  obtain ⟨o, e, d⟩ := S.head
  refine wpAny_storeName_cell hk hx hc ⟨o, e, d⟩ fun h' hv hs => ?_
  exact q h' (S.ch hs.extBut hv)

/- the law's own text -/
noncomputable def lbody (w : World) : List Stmt := stmtsOf (fnAt w 405).body
noncomputable def lst (w : World) (k : Nat) : Stmt := ((lbody w).drop k).headD default
noncomputable abbrev lenv (w : World) (L : Addr) : Env := envAt w 405 L
def forI : Stmt → Expr
  | .For _ i _ _ _ => i
  | _ => default

theorem lnames (L : Addr) : Names (lenv w L) L := ⟨rfl, by kernel_rfl, by kernel_rfl⟩

theorem call_kinds {Q : Value → Shared → Prop} (o : Aok 100 A) (X : (KF w).In h)
    (q : ∀ v s', MkPairs lawKinds h g dr os v s' → Q v s') :
    wpAny (MD w) A (PySem.call (.ref 390) []) Q E ⟨h, g, dr, tk, os⟩ :=
  wpAny_mono (wpAny_AB o (kinds_run w h g dr tk os X)) (fun _ _ z => q _ _ z) fun _ _ z => False.elim z

local macro_rules | `(tactic| x_close) => `(tactic| first | exact mkVal_close0 (by kernel_rfl) | ((rename Mem _ _ _ _ => DD); exact mkVal_close DD (by kernel_rfl)))

def arg1 : Stmt → Expr
  | .Expr (.Call _ (a :: _) _ _) _ => a
  | _ => default
noncomputable def kexp (w : World) : Expr := arg1 ((forB (lst w 1)).headD default)

theorem fdiv_ok (a : Int) : ¬ (Builtin.divisionGoesByPylong a 8) = true ∧ ¬ (Builtin.divisionGoesByPylong a 24) = true ∧ ¬ (Builtin.divisionGoesByPylong a 72) = true := by
  refine ⟨?_, ?_, ?_⟩ <;> (unfold Builtin.divisionGoesByPylong; simp; intro h; exfalso; revert h; decide)
end
end Fw

namespace Fw
open PySem PySem.W PySem.W.X PyProof.Rows PySem.Spec PySem.Calls

section
variable {w : World} {mg mb : Str → Option Value} {A : Around} {E : Value → Shared → Prop} {R h : Heap} {g : Array GenState} {dr : Drawn} {tk : Nat} {os : OsState} {env : Env} {led rest : Led} {δ ε : Type}

theorem sub_rule {value slice : Expr} {pos : Pos} {s : Shared} {Q : Value → Shared → Prop}
    (h : wpAny (MD w) A (eval value env) (fun o s₁ => wpAny (MD w) A (eval slice env) (fun i s₂ => ∃ T id, typeLookup (.type T) "__getitem__" = pure (some (.builtin id)) ∧ s₂.TypeIs o T ∧ wpAny (MD w) A (getItem o i) Q E s₂) E s₁) E s)
    (hs : ∀ o i, subscripted slice false o i = operate [o, i] (getItem o i) := by intro _ _; with_unfolding_all rfl) : wpAny (MD w) A (eval (.Subscript value slice pos) env) Q E s := by
  refine Subscript_ (wpAny_mono h (fun o s₁ h₁ => wpAny_mono h₁ (fun i s₂ h₂ => ?_) fun _ _ z => z) fun _ _ z => z)
  obtain ⟨T, id, hl, hT, hg⟩ := h₂
  unfold subscriptTail
  refine wpAny_bind ?_
  rw [getitemInPython_of_ne hT.not_modules]
  refine wpAny_bind (wpAny_specialOf hT hl ?_)
  have fin : wpAny (MD w) A (subscripted slice false o i) (fun r s₃ => wpAny (MD w) A (letTemporaryGo value o r >>= fun _ => pure r) Q E s₃) E s₂ := by
    rw [hs]
    exact wpAny_operating (wpAny_mono hg (fun r s₃ h₃ => wpAny_bind (wpAny_letTemporaryGo (wpAny_pure h₃))) fun _ _ x => x)
  first
    | exact wpAny_pure (wpAny_bind fin)
    | exact wpAny_bind (wpAny_pure (wpAny_bind fin))
    | exact wpAny_bind fin

theorem item_list {l : Addr} {items : Array Value} {k : Int} {t : Tok} {x : Value} {s : Shared} {Q : Value → Shared → Prop} (hl : s.heap.IsList l items) (h0 : 0 ≤ k) (hfit : k < 2 ^ 63) (hx : items[k.toNat]? = some x) (h : Q x s) :
    ∃ T id, typeLookup (.type T) "__getitem__" = pure (some (.builtin id)) ∧ s.TypeIs (.ref l) T ∧ wpAny (MD w) A (getItem (.ref l) (.int k t)) Q E s :=
  ⟨"list", _, slot_list_getitem.lookup, hl.typeIs, wpAny_getItem_list hl h0 hfit hx h⟩

theorem fmod_lt {a : Int} {b : Int} (hb : 0 < b) : 0 ≤ a.fmod b ∧ a.fmod b < b := ⟨Int.fmod_nonneg_of_pos a hb, Int.fmod_lt_of_pos a hb⟩

theorem St.frzNew {h' : Heap} (S : St R led h) (k : Sub h h') : ∃ R', Sub R R' ∧ St R' led h' ∧ ∀ b o, h'.get? b = some o → h.get? b = none → R'.get? b = some o := by
  obtain ⟨R', kR, S', fr⟩ := (S.ext k).frz
  exact ⟨R', kR, S', fun b o e n => fr b o e (S.not_led_new (h' := h) n)⟩

theorem kinds_ok {i : Nat} {p : Pair} (e : lawKinds[i]? = some p) : PyData.strOk p.2 = true := by
  have h : lawKinds.all (fun p => PyData.strOk p.2) = true := by decide +kernel
  exact List.all_eq_true.mp h p (List.mem_of_getElem? e)

def kindP2 (x : Str) : List Pair := [(2, ("X" : Str) ++ x), (1, "0"), (0, "POINT")]
set_option maxHeartbeats 1000000 in
theorem kind_val {L : Addr} {n : Int} {t : Tok} {m : Str → Option Value} {Q : Value → Shared → Prop} (o : Aok 200 A) (T : Stat w mg mb R) (S : St R ((L, NsO m) :: led) h) (hm : m "number" = some (.int n t))
    (q : ∀ v p h' tk' R', Sub R R' → St R' ((L, NsO m) :: led) h' → PairAt R' v p → PyData.strOk p.2 = true → Q v ⟨h', g, dr, tk', os⟩) : wpAny (MD w) A (eval (kexp w) (lenv w L)) Q E ⟨h, g, dr, tk, os⟩ := by
  refine IfExp_ ?_
  refine wpAny_isTrue_Compare1 ?_
  refine wpAny_BinOp ?_
  refine wpAny_BinOp ?_
  refine ld_name S (lnames L) (by kernel_rfl) hm ?_
  refine k_int fun t0 tk0 => ?_
  refine o_fdiv (by decide) (fdiv_ok n).1 fun t1 tk1 => ?_
  refine k_int fun t0 tk0 => ?_
  refine o_mod (by decide) fun t1 tk1 => ?_
  refine k_int fun t0 tk0 => ?_
  refine PyProof.Rows.lt_int ?_
  refine wpAny_truthy_bool ?_
  split
  · refine sub_rule ?_
    refine wpAny_Call_ofName ?_
    refine ld_global (T.up S.sub) (v := .ref 390) (by kernel_rfl) ?_ (by kernel_rfl) (by kernel_rfl) (by kernel_rfl)
    refine callWith_K0 (KIn.up T.K S.sub) (by kernel_rfl) ?_
    refine call_kinds (o.less 100 (by decide)) (KIn.up T.K S.sub) fun v s' z => ?_
    obtain ⟨h₁, tk₁, a, xs, rfl, rfl, k₁, el, nl, hxs⟩ := z
    have S1 := S.ext k₁
    refine wpAny_BinOp ?_
    refine ld_name S1 (lnames L) (by kernel_rfl) hm ?_
    refine k_int fun t0 tk0 => ?_
    refine o_mod (by decide) fun t1 tk1 => ?_
    obtain ⟨f0, f1⟩ := fmod_lt (a := n) (b := 8) (by decide)
    have hlen : (n.fmod 8).toNat < lawKinds.length := by show (n.fmod 8).toNat < 8; omega
    obtain ⟨v, ev, hv⟩ := hxs.get (List.getElem?_eq_getElem hlen)
    refine item_list ⟨_, el, rfl, 0, rfl⟩ f0 (by omega) (x := v) (by simpa using ev) ?_
    obtain ⟨R', kR, S2, fr⟩ := S.frzNew k₁
    obtain ⟨a', t1, t2, n', rfl, ea, na⟩ := hv
    exact q _ _ _ _ R' kR S2 ⟨a', t1, t2, n', rfl, fr _ _ ea na⟩ (kinds_ok (List.getElem?_eq_getElem hlen))
  · refine sub_rule ?_
    refine e_list ?_
    refine spl_cons ?_
    refine e_tuple ?_
    refine spl_cons ?_
    refine k_int fun t0 tk0 => ?_
    refine spl_cons ?_
    refine wpAny_BinOp ?_
    refine k_str fun t0 tk0 => ?_
    refine wpAny_Call_ofName ?_
    refine ld_builtin (T.up S.sub) (v := .type "str") (by kernel_rfl) (by kernel_rfl) (by decide) ?_ (by kernel_rfl) (by kernel_rfl) (by kernel_rfl) (by kernel_rfl)
    refine c_type1 ?_
    refine wpAny_BinOp ?_
    refine wpAny_BinOp ?_
    refine ld_name S (lnames L) (by kernel_rfl) hm ?_
    refine k_int fun t0 tk0 => ?_
    refine o_fdiv (by decide) (fdiv_ok n).2.1 fun t1 tk1 => ?_
    refine k_int fun t0 tk0 => ?_
    refine o_mod (by decide) fun t1 tk1 => ?_
    refine call_str3 (o.less 100 (by decide)) (KIn.up T.K S.sub) (fmod_lt (by decide)) fun x t' h₁ tk₁ k₁ hx => ?_
    obtain ⟨R1, kR1, S1, _⟩ := S.frzNew k₁
    have hxl : x.length = 1 := by rcases hx with rfl | rfl | rfl <;> rfl
    have hok : PyData.strOk (("X" : Str) ++ x) = true := by rcases hx with rfl | rfl | rfl <;> decide +kernel
    refine o_cat (by rw [hxl, sizeLine_eq]; decide) fun t2 tk2 => ?_
    refine spl_nil ⟨by show 2 ≤ 1000; omega, h₁, g, tk2, R1, _, rfl, S1, fun a1 h2 R2 kR2 S2 e2 => ?_⟩
    refine spl_cons ?_
    refine e_pair S2 fun v3 h3 tk3 R3 kR3 S3 e3 => ?_
    refine spl_cons ?_
    refine e_pair S3 fun v4 h4 tk4 R4 kR4 S4 e4 => ?_
    refine spl_nil ⟨by show 3 ≤ 1000; omega, h4, g, tk4, R4, _, rfl, S4, fun a5 h5 S5 => ?_⟩
    refine wpAny_BinOp ?_
    refine wpAny_BinOp ?_
    refine ld_name S5.tail (lnames L) (by kernel_rfl) hm ?_
    refine k_int fun t0 tk0 => ?_
    refine o_fdiv (by decide) (fdiv_ok n).2.2 fun t1 tk1 => ?_
    refine k_int fun t0 tk0 => ?_
    refine o_mod (by decide) fun t1 tk1 => ?_
    obtain ⟨f0, f1⟩ := fmod_lt (a := n.fdiv 72) (b := 3) (by decide)
    have hall : All2 (PairAt R4) [.ref a1, v3, v4] (kindP2 x) := .cons ⟨a1, _, _, 0, rfl, kR4 _ _ (kR3 _ _ e2)⟩ (.cons (e3.up kR4) (.cons e4 .nil))
    have hlen : ((n.fdiv 72).fmod 3).toNat < (kindP2 x).length := by show ((n.fdiv 72).fmod 3).toNat < 3; omega
    obtain ⟨v, ev, hv⟩ := hall.get (List.getElem?_eq_getElem hlen)
    refine item_list (LsO.isList S5.head) f0 (by omega) (x := v) (by simpa using ev) ?_
    refine q v _ h5 _ R4 (kR1.trans (kR2.trans (kR3.trans kR4))) S5.tail hv ?_
    have hall : (kindP2 x).all (fun p => PyData.strOk p.2) = true := by
      show (PyData.strOk (("X" : Str) ++ x) && (PyData.strOk "0" && (PyData.strOk "POINT" && true))) = true
      rw [hok]; decide +kernel
    exact List.all_eq_true.mp hall _ (List.getElem_mem hlen)
end
end Fw

namespace Fw
open PySem PySem.W PySem.W.X PyProof.Rows PySem.Spec PySem.Calls

section
variable {w : World} {mg mb : Str → Option Value} {A : Around} {E : Value → Shared → Prop} {R h : Heap} {g : Array GenState} {dr : Drawn} {tk : Nat} {os : OsState} {env : Env} {led rest : Led} {δ ε : Type}

theorem All2.take {α β : Type} {P : α → β → Prop} : ∀ {as : List α} {bs : List β}, All2 P as bs → ∀ k, All2 P (as.take k) (bs.take k)
  | _, _, .nil, k => by simp; exact .nil
  | _, _, .cons h r, 0 => .nil
  | _, _, .cons h r, k + 1 => .cons h (r.take k)
theorem LsO.obj {a : Addr} {xs : Array Value} (S : St R ((a, LsO xs) :: led) h) : ∃ o, h.get? a = some o ∧ o.cls = .type "list" ∧ o.dict = none := let ⟨o, e, n, d⟩ := S.head; ⟨o, e, d ▸ rfl, d ▸ rfl⟩

theorem e_append {o elt : Expr} {apos pos : Pos} {Q : Value → Shared → Prop}
    (q : wpAny (MD w) A (eval o env) (fun ov s₁ => ∃ a, ov = .ref a ∧ (∃ oo, s₁.heap.get? a = some oo ∧ oo.cls = .type "list" ∧ oo.dict = none) ∧
      wpAny (MD w) A (eval elt env) (fun y s₂ => ∃ h₂ g₂ tk₂ R led xs, s₂ = ⟨h₂, g₂, dr, tk₂, os⟩ ∧ St R ((a, LsO xs) :: led) h₂ ∧ xs.size ≤ 1000 ∧ ∀ h₃, St R ((a, LsO (xs.push y)) :: led) h₃ → Q .none ⟨h₃, g₂, dr, tk₂, os⟩) E s₁) E ⟨h, g, dr, tk, os⟩)
    (hbase : attributeBase o "append" env (eval o env) = eval o env := by rfl) (hline : (apos.endLine == pos.line) = true := by rfl) (htrees : backTo pos (starEach [elt] env) = [(false, eval elt env)] := by rfl) :
    wpAny (MD w) A (eval (.Call (.Attribute o "append" apos) [elt] [] pos) env) Q E ⟨h, g, dr, tk, os⟩ := by
  refine Call_append_any (wpAny_mono q (fun ov s₁ z => ?_) fun _ _ z => z) hbase hline htrees
  obtain ⟨a, rfl, ⟨oo, e, c, d⟩, z⟩ := z
  refine ⟨fun pl Q' hq => getMethod_list_append e c d hq, wpAny_mono z (fun y s₂ z => ?_) fun _ _ z => z⟩
  obtain ⟨h₂, g₂, tk₂, R, led, xs, rfl, S, hs, z⟩ := z
  refine list_append_ls S.head (fun h₃ hk hp => ?_) hs
  exact z h₃ (S.ch (P' := LsO (xs.push y)) hk.extBut hp)

theorem for_list {V : Heap → Value → δ → Prop} (Vm : ∀ R R' v d, Sub R R' → V R v d → V R' v d) {v : Value} {ds : List δ} {target : Expr} {body : List Stmt} {RR : Result → Shared → Prop} (o : Aok 340 A)
    (Inv : List δ → Heap → Led → Prop) (Im : ∀ ds R R' led, Sub R R' → Inv ds R led → Inv ds R' led) (T : Stat w mg mb R) (S : St R led h) (X : ListAt V R v ds) (hI : Inv ds R led)
    (turn : ∀ d ds v R led tail h g' tk, Inv (d :: ds) R led → Stat w mg mb R → St R (led ++ tail) h → V R v d → (AllBare g → AllBare g') →
      wpAny (MD w) A (assign target env v) (fun _ s₂ => wpAny (MD w) A (execs body env) (fun f s₃ => match f with
        | .next | .cont => ∃ h' g'' tk' R' led', s₃ = ⟨h', g'', dr, tk', os⟩ ∧ Sub R R' ∧ St R' (led' ++ tail) h' ∧ Inv ds R' led' ∧ (g'' = g' ∨ true = true) ∧ (AllBare g' → AllBare g'')
        | .brk => RR (.ok .next) s₃
        | .ret v => RR (.ok (.ret v)) s₃) (notedBy (MD w) A env fun e s' => RR (.error e) s') s₂) (notedBy (MD w) A env fun e s' => RR (.error e) s') ⟨h, g', dr, tk, os⟩)
    (fin : ∀ R led h g' tk, Inv [] R led → Stat w mg mb R → St R led h → (AllBare g → AllBare g') → RR (.ok .next) ⟨h, g', dr, tk, os⟩)
    (ht : ∀ it v, letOwnedTupleGo target it v = pure () := by intro _ _; rfl) : wpAny (MD w) A (pyIter v) (fun it s₂ => codeAny (MD w) A (.forLoop target it body [] env) RR s₂) E ⟨h, g, dr, tk, os⟩ := by
  obtain ⟨a, oo, xs, rfl, e, l, z⟩ := X
  refine wpAny_pyIter_list (LsO.isList ⟨oo, S.sub _ _ e, l⟩) ?_
  obtain ⟨n, rfl⟩ := l
  exact for_rule (g₀ := g) o Inv Im turn fin T (S.push (o := { cls := .type "list_iterator", data := .fields #[.ref a, .int 0 0] }) (P := LiO a 0) ⟨rfl, rfl⟩) (itr_seq Vm e rfl (by rw [List.drop_zero]; exact z)) trivial hI (fun b => b) (ht _)

/-- `x = []`, a cell -/
theorem law_0 {L : Addr} {m : Str → Option Value} {v₀ : Option Value} {Q : Flow → Shared → Prop} (S : St R ((L + 1, CeO v₀) :: (L, NsO m) :: led) h)
    (q : ∀ h' a, St R ((L + 1, CeO (some (.ref a))) :: (a, LsO #[]) :: (L, NsO m) :: led) h' → Q .next ⟨h', g, dr, tk, os⟩) : wpAny (MD w) A (exec (lst w 0) (lenv w L)) Q E ⟨h, g, dr, tk, os⟩ := by
  refine wpAny_Assign_Name ?_
  refine e_list ?_
  refine spl_nil ⟨by show 0 ≤ 1000; omega, h, g, tk, R, _, rfl, S, fun a h' S' => ?_⟩
  refine st_cell (by kernel_rfl) (by kernel_rfl) (by kernel_rfl) S'.swap fun h₂ S2 => ?_
  exact q h₂ a S2

def IntV (_ : Heap) (v : Value) (n : Int) : Prop := ∃ t, v = .int n t

def ScrAt (R : Heap) (l : Addr) (ns : List Int) : Prop := ∃ o xs n, R.get? l = some o ∧ o.cls = .type "list" ∧ o.data = .seq (List.toArray xs) n ∧ All2 (IntV R) xs ns
def Inv1 (R₀ : Heap) (L pl : Addr) (scr : Value) (B : Nat) (led : Led) (ns : List Int) (R : Heap) (ld : Led) : Prop :=
  Sub R₀ R ∧ ∃ m xs ps, ld = (L, NsO m) :: (L + 1, CeO (some (.ref pl))) :: (pl, LsO xs) :: led ∧ All2 (PairAt R) xs.toList ps ∧ ps.length + ns.length ≤ B ∧ (∀ p ∈ ps, PyData.strOk p.2 = true) ∧ m "script" = some scr

set_option maxHeartbeats 1000000 in
theorem law_1 {L l pl : Addr} {m : Str → Option Value} {ns : List Int} {Q : Flow → Shared → Prop} (o : Aok 400 A) (T : Stat w mg mb R) (S : St R ((L, NsO m) :: (L + 1, CeO (some (.ref pl))) :: (pl, LsO #[]) :: led) h)
    (hm : m "script" = some (.ref l)) (hl : ScrAt R l ns) (hns : ns.length ≤ 63)
    (q : ∀ h' tk' g' R' m' xs ps, Sub R R' → St R' ((L, NsO m') :: (L + 1, CeO (some (.ref pl))) :: (pl, LsO xs) :: led) h' → All2 (PairAt R') xs.toList ps → ps.length ≤ 63 → (∀ p ∈ ps, PyData.strOk p.2 = true) → m' "script" = some (.ref l) → (AllBare g → AllBare g') →
      Q .next ⟨h', g', dr, tk', os⟩) : wpAny (MD w) A (exec (lst w 1) (lenv w L)) Q E ⟨h, g, dr, tk, os⟩ := by
  obtain ⟨lo, xs, ln, elo, lc, ldat, hall⟩ := hl
  refine wpAny_For ?_
  refine wpAny_Subscript_list_slice ?_
  refine ld_name S (lnames L) (by kernel_rfl) hm ?_
  rw [evalPart_none]
  refine wpAny_pure ?_
  rw [evalPart_some]
  refine k_int fun t1 tk1 => ?_
  have hxl : xs.length ≤ 63 := by rw [hall.length]; exact hns
  refine ⟨l, xs.toArray, none, some 18, rfl, ⟨lo, S.sub _ _ elo, lc, ln, ldat⟩, by rw [sizeLine_eq, List.size_toArray]; omega, .none, .int 18 t1, ?_⟩
  dsimp only
  have S1 := S.ext (Sub.push h { cls := .type "slice", data := .fields #[.none, .int 18 t1, .none] })
  have S2 := S1.push (o := { cls := .type "list", data := .seq (slicePick xs.toArray none (some 18) none) }) (P := LsO _) (LsO.new _)
  obtain ⟨R1, kR1, S3, ⟨lo2, elo2, hlo2⟩, _⟩ := S2.freezeHead
  rw [Heap.size_push] at elo2
  have hslice : slicePick xs.toArray none (some ((18 : Nat) : Int)) none = (xs.toArray.toList.take 18).toArray := slicePick_upto' xs.toArray 18
  have hX : ListAt IntV R1 (.ref (h.objs.size + 1)) (ns.take 18) := by
    refine ⟨_, lo2, xs.take 18, rfl, elo2, ?_, hall.take 18⟩
    have : slicePick xs.toArray none (some 18) none = (xs.take 18).toArray := hslice
    rw [← this]; exact hlo2
  have hlen : (ns.take 18).length ≤ 63 := by rw [List.length_take]; omega
  refine for_list (V := IntV) (fun _ _ _ _ _ z => z) (o.less 340 (by decide)) (Inv1 R L pl (.ref l) 63 led) ?_ (T.up kR1) S3 hX ?_ ?_ ?_
  · rintro ds R R' ld k ⟨h0, m, xs, ps, e, h1, h2, h3, h4⟩
    exact ⟨h0.trans k, m, xs, ps, e, h1.mono fun _ _ => PairAt.up k, h2, h3, h4⟩
  · exact ⟨kR1, m, #[], [], rfl, .nil, by simpa using hlen, (fun p hp => by cases hp), hm⟩
  · rintro d ds v R ld tail h g' tk ⟨h0, m, xs, ps, rfl, h1, h2, h3, h4⟩ T S ⟨t, rfl⟩ hb
    refine st_name S (lnames L) (by kernel_rfl) fun h5 tk5 S5 => ?_
    refine wpAny_execs_cons ?_
    refine wpAny_Expr_any ?_
    refine e_append ?_
    refine ld_cell (by kernel_rfl) (by kernel_rfl) (c := L + 1) (by kernel_rfl) (v := .ref pl) S5.swap.head ?_
    refine ⟨pl, rfl, LsO.obj (S5.perm rot3), ?_⟩
    refine kind_val (o.less 200 (by decide)) T S5 upd_self fun v p h6 tk6 R6 kR6 S6 hv hok => ?_
    refine ⟨h6, g', tk6, R6, _, xs, rfl, S6.perm rot3, ?_, fun h7 S7 => ?_⟩
    · have := h1.length; rw [Array.length_toList] at this; rw [this]; simp at h2; omega
    refine wpAny_execs_nil ?_
    refine ⟨h7, g', tk6, R6, (L, NsO (upd m "number" (.int d t))) :: (L + 1, CeO (some (.ref pl))) :: (pl, LsO (xs.push v)) :: led, rfl, kR6, S7.perm rot3.symm, ⟨h0.trans kR6, _, _, ps ++ [p], rfl, ?_, ?_, ?_, ?_⟩, .inl rfl, fun b => b⟩
    · rw [Array.toList_push]; exact (h1.mono fun _ _ => PairAt.up kR6).snoc hv
    · simp at h2 ⊢; omega
    · intro p' hp'
      rcases List.mem_append.mp hp' with z | z
      · exact h3 p' z
      · rw [List.mem_singleton.mp z]; exact hok
    · exact (upd_ne (by decide)).trans h4
  · rintro R2 ld h g' tk ⟨h0, m, xs, ps, rfl, h1, h2, h3, h4⟩ T S hb
    exact q h tk g' R2 m xs ps h0 S h1 (by simpa using h2) h3 h4 hb
end
end Fw

namespace Fw
open PySem PySem.W PySem.W.X PyProof.Rows PySem.Spec PySem.Calls

section
variable {w : World} {mg mb : Str → Option Value} {A : Around} {E : Value → Shared → Prop} {R h : Heap} {g : Array GenState} {dr : Drawn} {tk : Nat} {os : OsState} {env : Env} {led rest : Led} {δ ε : Type}

structure Env0 (env : Env) : Prop where
  glo : env.globals = mainGlobals
  bui : env.builtins = builtinsNs
  fn : env.scope.kind = .function
theorem lenv0 (L : Addr) : Env0 (lenv w L) := ⟨by kernel_rfl, by kernel_rfl, by kernel_rfl⟩
theorem Env0.comp {scope : Scope} {cl : List (Str × Addr)} {D : Addr} (e : Env0 env) (hk : scope.kind = .function) : Env0 (compEnvC scope cl D env) := ⟨e.glo, e.bui, hk⟩

theorem e_len {x : Expr} {p1 p2 : Pos} {Q : Value → Shared → Prop} (e : Env0 env) (hx : env.kindOf "len" = some .globalImplicit) (T : Stat w mg mb h)
    (q : wpAny (MD w) A (eval x env) (fun v s₁ => ∃ l items h₁ g₁ tk₁, v = .ref l ∧ s₁ = ⟨h₁, g₁, dr, tk₁, os⟩ ∧ h₁.IsList l items ∧ items.size ≤ 1000 ∧ ∀ t tk', Q (.int items.size t) ⟨h₁, g₁, dr, tk', os⟩) E ⟨h, g, dr, tk, os⟩)
    (he : starEach [x] env = [(false, eval x env)] := by rfl) : wpAny (MD w) A (eval (.Call (.Name "len" p1) [x] [] p2) env) Q E ⟨h, g, dr, tk, os⟩ := by
  refine wpAny_Call_ofName ?_
  refine ld_builtin T (v := .builtin "len") (by kernel_rfl) (by kernel_rfl) (by decide) ?_ e.glo e.bui e.fn hx
  rw [he]
  refine Calls.callWith_builtin rfl (Calls.evalArgs_plain (Calls.spliced_cons (wpAny_mono q (fun v s₁ z => Calls.spliced_nil ?_) fun _ _ z => z)))
  obtain ⟨l, items, h₁, g₁, tk₁, rfl, rfl, hl, hs, z⟩ := z
  exact call_len_list hl (by omega) (z _ _)

/-- two lists, added: a new one -/
theorem o_addl {l b : Addr} {xs ys : Array Value} {n n' : Nat} {Q : Value → Shared → Prop} (S : St R led h) (hl : h.get? l = some { cls := .type "list", data := .seq xs n }) (hb : h.get? b = some { cls := .type "list", data := .seq ys n' }) (hsz : xs.size + ys.size ≤ 1000)
    (q : ∀ a h', St R ((a, LsO (xs ++ ys)) :: led) h' → Q (.ref a) ⟨h', g, dr, tk, os⟩) : wpAny (MD w) A (binaryOp .Add (.ref l) (.ref b)) Q E ⟨h, g, dr, tk, os⟩ :=
  P.add_list hl hb (q _ _ (S.push (LsO.new _))) (by rw [sizeLine_eq]; omega)

def lawTail : List Pair := [(0, "SECTION"), (2, "HEADER"), (0, "ENDSEC"), (0, "EOF")]
theorem IsTup.ofPair {v : Value} {p : Pair} (x : PairAt h v p) : ∃ a t1 t2, v = .ref a ∧ IsTup h a #[.int p.1 t1, .str p.2 t2] := let ⟨a, t1, t2, n, e, e1⟩ := x; ⟨a, t1, t2, e, _, e1, rfl, n, rfl⟩
theorem item_tup {t : Addr} {items : Array Value} {k : Int} {u : Tok} {x : Value} {s : Shared} {Q : Value → Shared → Prop} (hl : IsTup s.heap t items) (h0 : 0 ≤ k) (hk : k < 1000) (hx : items[k.toNat]? = some x) (q : Q x s) :
    ∃ T id, typeLookup (.type T) "__getitem__" = pure (some (.builtin id)) ∧ s.TypeIs (.ref t) T ∧ wpAny (MD w) A (getItem (.ref t) (.int k u)) Q E s := by
  refine ⟨"tuple", _, slot_tuple_getitem.lookup, hl.typeIs, PyProof.Rows.getItem_tuple hl (by omega) (by omega) (j := k.toNat) ?_ hx q⟩
  have := (Array.getElem?_eq_some_iff.mp hx).1
  unfold seqIndex?
  simp only [show ¬ k < 0 by omega, if_false]
  rw [if_pos (by simp; omega)]

/-- a subscript by a literal of a local pair -/
theorem e_pairItem {x : Str} {i : Int} {k : Nat} {p1 p2 p3 : Pos} {u : Value} {a : Addr} {c : Int} {y : Str} {t1 t2 : Tok} {n : Nat} {D : Addr} {m : Str → Option Value} {Q : Value → Shared → Prop} (S : St R ((D, NsO m) :: led) h) (nm : Names env D) (hx : env.kindOf x = some .local) (hm : m x = some (.ref a))
    (e : R.get? a = some { cls := .type "tuple", data := .seq #[.int c t1, .str y t2] n }) (hi : 0 ≤ i ∧ i < 1000) (hu : (#[Value.int c t1, .str y t2] : Array Value)[i.toNat]? = some u) (q : ∀ tk', Q u ⟨h, g, dr, tk', os⟩) (hd : (x == ("__debug__" : Str)) = false := by decide) :
    wpAny (MD w) A (eval (.Subscript (.Name x p1) (.Constant (.int i) k p2) p3) env) Q E ⟨h, g, dr, tk, os⟩ := by
  refine sub_rule ?_
  refine ld_name S nm hx hm ?_ hd
  refine k_int fun t tk' => ?_
  exact item_tup ⟨_, S.sub _ _ e, rfl, n, rfl⟩ hi.1 hi.2 hu (q tk')
end

section
variable {w : World} {mg mb : Str → Option Value} {A : Around} {E : Value → Shared → Prop} {R h : Heap} {g : Array GenState} {dr : Drawn} {tk : Nat} {os : OsState} {env : Env} {led rest : Led} {δ ε : Type}

set_option maxHeartbeats 1000000 in
theorem law_2 {L l pl : Addr} {m : Str → Option Value} {ns : List Int} {xs : Array Value} {ps : List Pair} {Q : Flow → Shared → Prop} (o : Aok 400 A) (T : Stat w mg mb R) (S : St R ((L, NsO m) :: (L + 1, CeO (some (.ref pl))) :: (pl, LsO xs) :: led) h)
    (hm : m "script" = some (.ref l)) (hl : ScrAt R l ns) (hns : ns.length ≤ 63) (hps : All2 (PairAt R) xs.toList ps) (hlen : ps.length ≤ 63) (hok : ∀ p ∈ ps, PyData.strOk p.2 = true)
    (q : ∀ h' tk' R' v ps, Sub R R' → St R' ((L, NsO m) :: led) h' → R'.IsCell (L + 1) (some v) → ListAt PairAt R' v ps → ps.length ≤ 67 → (∀ p ∈ ps, PyData.strOk p.2 = true) → Q .next ⟨h', g, dr, tk', os⟩) :
    wpAny (MD w) A (exec (lst w 2) (lenv w L)) Q E ⟨h, g, dr, tk, os⟩ := by
  have fin : ∀ h' tk' R' pl xs ps, Sub R R' → St R' ((L, NsO m) :: (L + 1, CeO (some (.ref pl))) :: (pl, LsO xs) :: led) h' → All2 (PairAt R') xs.toList ps → ps.length ≤ 67 → (∀ p ∈ ps, PyData.strOk p.2 = true) → Q .next ⟨h', g, dr, tk', os⟩ := by
    intro h' tk' R' pl xs ps k S' hxs hl hok
    obtain ⟨R1, k1, S1, ⟨oc, ec, hc⟩, _⟩ := S'.swap.freezeHead
    obtain ⟨R2, k2, S2, ⟨ol, el, hol⟩, _⟩ := S1.swap.freezeHead
    exact q h' tk' R2 (.ref pl) ps (k.trans (k1.trans k2)) S2 ⟨oc, k2 _ _ ec, hc⟩ ⟨pl, ol, xs.toList, rfl, el, hol, hxs.mono fun _ _ => PairAt.up (k1.trans k2)⟩ hl hok
  obtain ⟨lo, ys, ln, elo, lc, ldat, hall⟩ := hl
  have hyl : ys.length ≤ 63 := by rw [hall.length]; exact hns
  refine wpAny_If ?_
  refine wpAny_isTrue_Compare1 ?_
  refine e_len (lenv0 L) (by kernel_rfl) (T.up S.sub) ?_
  refine ld_name S (lnames L) (by kernel_rfl) hm ?_
  refine ⟨l, ys.toArray, h, g, tk, rfl, rfl, ⟨lo, S.sub _ _ elo, lc, ln, ldat⟩, by rw [List.size_toArray]; omega, fun t1 tk1 => ?_⟩
  refine k_int fun t2 tk2 => ?_
  refine PyProof.Rows.lt_int ?_
  refine wpAny_truthy_bool ?_
  split
  · refine wpAny_execs_cons ?_
    refine wpAny_Assign_Name ?_
    refine wpAny_BinOp ?_
    refine ld_cell (by kernel_rfl) (by kernel_rfl) (c := L + 1) (by kernel_rfl) (v := .ref pl) S.swap.head ?_
    refine e_list ?_
    refine spl_cons ?_
    refine e_pair S fun v1 h1 tk1 R1 k1 S1 hv1 => ?_
    refine spl_cons ?_
    refine e_pair S1 fun v2 h2 tk2 R2 k2 S2 hv2 => ?_
    refine spl_cons ?_
    refine e_pair S2 fun v3 h3 tk3 R3 k3 S3 hv3 => ?_
    refine spl_cons ?_
    refine e_pair S3 fun v4 h4 tk4 R4 k4 S4 hv4 => ?_
    refine spl_nil ⟨by show 4 ≤ 1000; omega, h4, g, tk4, R4, _, rfl, S4, fun a h5 S5 => ?_⟩
    obtain ⟨_, ea, na, rfl⟩ := S5.head
    obtain ⟨_, ep, np, rfl⟩ := ((S5.tail.perm rot3)).head
    have hxl : xs.size ≤ 63 := by have := hps.length; rw [Array.length_toList] at this; omega
    refine o_addl S5 ep ea (by show xs.size + 4 ≤ 1000; omega) fun a6 h6 S6 => ?_
    have S7 : St R4 ((L + 1, CeO (some (.ref pl))) :: (L, NsO m) :: (a6, LsO (xs ++ #[v1, v2, v3, v4])) :: led) h6 :=
      S6.sub_led (fun x hx => by
        simp only [List.mem_cons] at hx ⊢
        rcases hx with h | h | h | h
        · exact .inr (.inr (.inr (.inl h)))
        · exact .inr (.inr (.inl h))
        · exact .inl h
        · exact .inr (.inr (.inr (.inr (.inr h)))))
        (by
          have := S6.nd
          simp only [List.map_cons, List.nodup_cons, List.mem_cons, not_or] at this ⊢
          obtain ⟨⟨a1, a2, a3, a4, a5⟩, ⟨b1, b2, b3, b4⟩, ⟨c1, c2, c3⟩, ⟨d1, d2⟩, e1, e2⟩ := this
          exact ⟨⟨Ne.symm c1, Ne.symm a3, d2⟩, ⟨Ne.symm a2, c3⟩, a5, e2⟩)
    refine st_cell (by kernel_rfl) (by kernel_rfl) (by kernel_rfl) S7 fun h8 S8 => ?_
    refine wpAny_execs_nil ?_
    refine fin h8 tk4 R4 a6 (xs ++ #[v1, v2, v3, v4]) (ps ++ lawTail) (k1.trans (k2.trans (k3.trans k4))) (S8.swap.perm (.cons _ (.refl _))) ?_ ?_ ?_
    · rw [Array.toList_append]
      exact All2.append (.cons (hv1.up (k2.trans (k3.trans k4))) (.cons (hv2.up (k3.trans k4)) (.cons (hv3.up k4) (.cons hv4 .nil)))) (hps.mono fun _ _ => PairAt.up (k1.trans (k2.trans (k3.trans k4))))
    · rw [List.length_append]; show ps.length + 4 ≤ 67; omega
    · intro p hp
      rcases List.mem_append.mp hp with z | z
      · exact hok p z
      · have hall : lawTail.all (fun p => PyData.strOk p.2) = true := by decide +kernel
        exact List.all_eq_true.mp hall p z
  · refine wpAny_execs_nil ?_
    exact fin h tk2 R pl xs ps (Sub.refl _) S hps (by omega) hok
end
end Fw

namespace Fw
open PySem PySem.W PySem.W.X PyProof.Rows PySem.Spec PySem.Calls

section
variable {w : World} {mg mb : Str → Option Value} {A : Around} {E : Value → Shared → Prop} {R h : Heap} {g : Array GenState} {dr : Drawn} {tk : Nat} {os : OsState} {env : Env} {led rest : Led} {δ ε : Type}

theorem law_3 {L : Addr} {m : Str → Option Value} {Q : Flow → Shared → Prop} (S : St R ((L, NsO m) :: led) h)
    (q : ∀ h' tk' a, St R ((L, NsO (upd m "groups" (.ref a))) :: (a, LsO #[]) :: led) h' → Q .next ⟨h', g, dr, tk', os⟩) : wpAny (MD w) A (exec (lst w 3) (lenv w L)) Q E ⟨h, g, dr, tk, os⟩ := by
  refine wpAny_Assign_Name ?_
  refine e_list ?_
  refine spl_nil ⟨by show 0 ≤ 1000; omega, h, g, tk, R, _, rfl, S, fun a h' S' => ?_⟩
  refine st_local S'.swap rfl (by kernel_rfl) (fun h₂ tk₂ S2 _ => ?_) (by kernel_rfl)
  exact q h₂ tk₂ a S2

abbrev GrpAt : Heap → Value → List Pair → Prop := ListAt PairAt
theorem GrpAt.up {R R' : Heap} (k : Sub R R') {v gp} (x : GrpAt R v gp) : GrpAt R' v gp := ListAt.up (W := PairAt) (fun _ _ _ _ k => PairAt.up k) k x

def Inv4 (R₀ : Heap) (L gl : Addr) (led : Led) (all : List (List Pair)) (B : Nat) (rem : List Pair) (R : Heap) (ld : Led) : Prop :=
  Sub R₀ R ∧ ∃ m gvals fro, m "groups" = some (.ref gl) ∧ All2 (GrpAt R) gvals fro ∧
    ((fro = [] ∧ ld = (L, NsO m) :: (gl, LsO #[]) :: led ∧ emit 0 none rem = all ∧ rem.length ≤ B) ∨
     (∃ a xs gp, ld = (L, NsO m) :: (gl, LsO (gvals ++ [Value.ref a]).toArray) :: (a, LsO xs) :: led ∧ All2 (PairAt R) xs.toList gp ∧ fro ++ emit 0 (some gp) rem = all ∧ fro.length + rem.length ≤ B ∧ gp.length + rem.length ≤ B))

theorem St.f1 {p q} (S : St R (p :: q :: led) h) : St R (q :: p :: led) h := S.swap
theorem St.f2 {p q r} (S : St R (p :: q :: r :: led) h) : St R (r :: p :: q :: led) h := S.perm rot3
theorem St.f3 {p q r s} (S : St R (p :: q :: r :: s :: led) h) : St R (s :: p :: q :: r :: led) h := (S.perm (led' := p :: s :: q :: r :: led) (.cons _ rot3)).swap
theorem St.f4 {p q r s t} (S : St R (p :: q :: r :: s :: t :: led) h) : St R (t :: p :: q :: r :: s :: led) h := (S.perm (led' := p :: q :: t :: r :: s :: led) (.cons _ (.cons _ rot3))).f2
theorem perm4 {α : Type} {a b c : α} {l : List α} : List.Perm (b :: a :: c :: l) (a :: b :: c :: l) := .swap _ _ _
theorem perm5 {α : Type} {a b c : α} {l : List α} : List.Perm (c :: b :: a :: l) (a :: b :: c :: l) := ((List.Perm.swap b c _).trans (.cons _ (.swap a c _))).trans (.swap a b _)

set_option maxHeartbeats 2000000 in
theorem law_4 {L gl : Addr} {pv : Value} {m : Str → Option Value} {ps : List Pair} {Q : Flow → Shared → Prop} (o : Aok 400 A) (T : Stat w mg mb R) (S : St R ((L, NsO m) :: (gl, LsO #[]) :: led) h)
    (hm : m "groups" = some (.ref gl)) (hc : R.IsCell (L + 1) (some pv)) (hps : ListAt PairAt R pv ps) (hlen : ps.length ≤ 67)
    (q : ∀ h' tk' g' R' m' gv, Sub R R' → St R' ((L, NsO m') :: led) h' → m' "groups" = some gv → ListAt GrpAt R' gv (emit 0 none ps) → (AllBare g → AllBare g') → Q .next ⟨h', g', dr, tk', os⟩) :
    wpAny (MD w) A (exec (lst w 4) (lenv w L)) Q E ⟨h, g, dr, tk, os⟩ := by
  refine wpAny_For ?_
  refine ld_cell (by kernel_rfl) (by kernel_rfl) (c := L + 1) (by kernel_rfl) (hc.keeps S.sub) ?_
  refine for_list (V := PairAt) (fun _ _ _ _ k => PairAt.up k) (o.less 340 (by decide)) (Inv4 R L gl led (emit 0 none ps) 67) ?_ T S hps ?_ ?_ ?_
  · rintro ds R R' ld k ⟨h0, m, gvals, fro, e, h1, h2⟩
    refine ⟨h0.trans k, m, gvals, fro, e, h1.mono fun _ _ => GrpAt.up k, ?_⟩
    rcases h2 with z | ⟨a, xs, gp, z1, z2, z3⟩
    · exact .inl z
    · exact .inr ⟨a, xs, gp, z1, z2.mono fun _ _ => PairAt.up k, z3⟩
  · exact ⟨Sub.refl _, m, [], [], hm, .nil, .inl ⟨rfl, rfl, rfl, hlen⟩⟩
  · rintro p rem v R ld tail h g' tk ⟨h0, m, gvals, fro, hmg, hfro, hcase⟩ T S ⟨pa, t1, t2, n, rfl, ea⟩ hb
    obtain ⟨ld', hld, S⟩ : ∃ ld', ld = (L, NsO m) :: ld' ∧ St R ((L, NsO m) :: (ld' ++ tail)) h := by
      rcases hcase with ⟨_, rfl, _⟩ | ⟨a, xs, gp, rfl, _⟩
      · exact ⟨_, rfl, S⟩
      · exact ⟨_, rfl, S⟩
    refine st_name S (lnames L) (by kernel_rfl) fun h1 tk1 S1 => ?_
    refine wpAny_execs_cons ?_
    refine wpAny_If ?_
    refine wpAny_isTrue_Compare1 ?_
    refine e_pairItem S1 (lnames L) (by kernel_rfl) upd_self ea (u := .int p.1 t1) ⟨by omega, by omega⟩ rfl fun tk2 => ?_
    refine k_int fun t3 tk3 => ?_
    refine PyProof.Rows.eq_int ?_
    refine wpAny_truthy_bool ?_
    have hmg1 : upd m "pair" (.ref pa) "groups" = some (.ref gl) := (upd_ne (by decide)).trans hmg
    split
    · next hz =>
      have hz : p.1 = 0 := eq_of_beq hz
      refine wpAny_execs_cons ?_
      refine wpAny_Expr_any ?_
      refine e_append ?_
      refine ld_name S1 (lnames L) (by kernel_rfl) hmg1 ?_
      rcases hcase with ⟨rfl, rfl, he, hsz⟩ | ⟨a, xs, gp, rfl, hxs, he, hsz, hsz2⟩
      · cases hld
        refine ⟨gl, rfl, LsO.obj S1.swap, ?_⟩
        refine e_list ?_
        refine spl_cons ?_
        refine ld_name S1 (lnames L) (by kernel_rfl) upd_self ?_
        refine spl_nil ⟨by show 1 ≤ 1000; omega, h1, g', tk3, R, _, rfl, S1, fun a h2 S2 => ?_⟩
        have S2' : St R ((gl, LsO #[]) :: (a, LsO #[Value.ref pa]) :: (L, NsO (upd m "pair" (.ref pa))) :: (led ++ tail)) h2 := S2.perm rot3
        refine ⟨h2, g', tk3, R, _, #[], rfl, S2', by decide, fun h3 S3 => ?_⟩
        refine wpAny_execs_nil ?_
        refine wpAny_execs_nil ?_
        cases hfro
        refine ⟨h3, g', tk3, R, (L, NsO (upd m "pair" (.ref pa))) :: (gl, LsO #[Value.ref a]) :: (a, LsO #[Value.ref pa]) :: led, rfl, Sub.refl _, S3.f2, ?_, .inl rfl, fun b => b⟩
        refine ⟨h0, _, [], [], hmg1, .nil, .inr ⟨a, #[.ref pa], [p], rfl, .cons ⟨pa, t1, t2, n, rfl, ea⟩ .nil, ?_, ?_, ?_⟩⟩
        · rw [← he]; exact (if_pos hz).symm
        · simp at hsz ⊢; omega
        · simp at hsz ⊢; omega
      · cases hld
        refine ⟨gl, rfl, LsO.obj S1.swap, ?_⟩
        refine e_list ?_
        refine spl_cons ?_
        refine ld_name S1 (lnames L) (by kernel_rfl) upd_self ?_
        refine spl_nil ⟨by show 1 ≤ 1000; omega, h1, g', tk3, R, _, rfl, S1, fun b h2 S2 => ?_⟩
        have hgl := hfro.length
        have S2' : St R ((gl, LsO (gvals ++ [Value.ref a]).toArray) :: (b, LsO #[Value.ref pa]) :: (L, NsO (upd m "pair" (.ref pa))) :: (a, LsO xs) :: (led ++ tail)) h2 := S2.perm rot3
        refine ⟨h2, g', tk3, R, _, _, rfl, S2', ?_, fun h3 S3 => ?_⟩
        · rw [List.size_toArray, List.length_append]; show gvals.length + 1 ≤ 1000; omega
        refine wpAny_execs_nil ?_
        refine wpAny_execs_nil ?_
        obtain ⟨R5, k5, S5, ⟨lo, el, hlo⟩, _⟩ := S3.f3.freezeHead
        refine ⟨h3, g', tk3, R5, (L, NsO (upd m "pair" (.ref pa))) :: (gl, LsO ((gvals ++ [Value.ref a]) ++ [Value.ref b]).toArray) :: (b, LsO #[Value.ref pa]) :: led, rfl, k5, ?_, ?_, .inl rfl, fun b => b⟩
        · have := S5.f2
          rw [List.push_toArray] at this
          exact this
        refine ⟨h0.trans k5, _, gvals ++ [.ref a], fro ++ [gp], hmg1, (hfro.mono fun _ _ => GrpAt.up k5).snoc ⟨a, lo, xs.toList, rfl, el, hlo, hxs.mono fun _ _ => PairAt.up k5⟩, .inr ⟨b, #[.ref pa], [p], rfl, .cons ⟨pa, t1, t2, n, rfl, k5 _ _ ea⟩ .nil, ?_, ?_, ?_⟩⟩
        · rw [← he, List.append_assoc]; congr 1; exact (if_pos hz).symm
        · simp at hsz ⊢; omega
        · simp at hsz hsz2 ⊢; omega
    · next hz =>
      have hz : p.1 ≠ 0 := fun z => hz (beq_iff_eq.mpr z)
      refine wpAny_execs_cons ?_
      refine wpAny_If ?_
      refine wpAny_isTrue_value ?_
      refine ld_name S1 (lnames L) (by kernel_rfl) hmg1 ?_
      rcases hcase with ⟨rfl, rfl, he, hsz⟩ | ⟨a, xs, gp, rfl, hxs, he, hsz, hsz2⟩
      · cases hld
        refine wpAny_truthy_list (LsO.isList S1.f1.head) (by decide) ?_
        rw [if_neg (by decide)]
        refine wpAny_execs_nil ?_
        refine wpAny_execs_nil ?_
        refine wpAny_execs_nil ?_
        refine ⟨h1, g', _, R, (L, NsO (upd m "pair" (.ref pa))) :: (gl, LsO #[]) :: led, rfl, Sub.refl _, S1, ⟨h0, _, [], [], hmg1, .nil, .inl ⟨rfl, rfl, ?_, ?_⟩⟩, .inl rfl, fun b => b⟩
        · rw [← he]; exact (if_neg hz).symm
        · simp at hsz; omega
      · cases hld
        have hgl := hfro.length
        have hgs : (gvals ++ [Value.ref a]).toArray.size = gvals.length + 1 := by rw [List.size_toArray, List.length_append]; rfl
        refine wpAny_truthy_list (LsO.isList S1.f1.head) (by rw [hgs]; omega) ?_
        rw [if_pos (by simp)]
        refine wpAny_execs_cons ?_
        refine wpAny_Expr_any ?_
        refine e_append ?_
        refine sub_rule ?_
        refine ld_name S1 (lnames L) (by kernel_rfl) hmg1 ?_
        refine UnaryOp_ ?_
        refine k_int fun t4 tk4 => ?_
        refine PyProof.Rows.neg_int ?_
        refine ⟨"list", _, slot_list_getitem.lookup, (LsO.isList S1.f1.head).typeIs, wpAny_getItem_list_neg (LsO.isList S1.f1.head) (by omega) (by rw [hgs]; omega) (by omega) (x := .ref a) ?_ ?_⟩
        · rw [hgs]
          have : ((-1 : Int) + ((gvals.length + 1 : Nat) : Int)).toNat = gvals.length := by omega
          rw [this]; simp
        refine ⟨a, rfl, LsO.obj S1.f2, ?_⟩
        refine ld_name S1 (lnames L) (by kernel_rfl) upd_self ?_
        have hxl := hxs.length
        rw [Array.length_toList] at hxl
        refine ⟨h1, g', _, R, _, xs, rfl, S1.f2, by omega, fun h3 S3 => ?_⟩
        refine wpAny_execs_nil ?_
        refine wpAny_execs_nil ?_
        refine wpAny_execs_nil ?_
        refine ⟨h3, g', _, R, (L, NsO (upd m "pair" (.ref pa))) :: (gl, LsO (gvals ++ [Value.ref a]).toArray) :: (a, LsO (xs.push (.ref pa))) :: led, rfl, Sub.refl _, S3.f2.f2, ⟨h0, _, gvals, fro, hmg1, hfro, .inr ⟨a, _, gp ++ [p], rfl, ?_, ?_, ?_, ?_⟩⟩, .inl rfl, fun b => b⟩
        · rw [Array.toList_push]; exact hxs.snoc ⟨pa, t1, t2, n, rfl, ea⟩
        · rw [← he]; congr 1; exact (if_neg hz).symm
        · simp at hsz ⊢; omega
        · simp at hsz2 ⊢; omega
  · rintro R2 ld h g' tk ⟨h0, m, gvals, fro, hmg, hfro, hcase⟩ T S hb
    rcases hcase with ⟨rfl, rfl, he, _⟩ | ⟨a, xs, gp, rfl, hxs, he, hsz, hsz2⟩
    · obtain ⟨R3, k3, S3, ⟨lo, el, hlo⟩, _⟩ := S.swap.freezeHead
      rw [← he] at q
      cases hfro
      exact q h tk g' R3 m (.ref gl) (h0.trans k3) S3 hmg ⟨gl, lo, [], rfl, el, hlo, .nil⟩ hb
    · obtain ⟨R3, k3, S3, ⟨lo, el, hlo⟩, _⟩ := (S.perm perm5).freezeHead
      obtain ⟨R4, k4, S4, ⟨lo2, el2, hlo2⟩, _⟩ := S3.freezeHead
      rw [← he] at q
      refine q h tk g' R4 m (.ref gl) (h0.trans (k3.trans k4)) S4 hmg ⟨gl, lo2, _, rfl, el2, hlo2, ?_⟩ hb
      exact (hfro.mono fun _ _ => GrpAt.up (k3.trans k4)).snoc ⟨a, lo, xs.toList, rfl, k4 _ _ el, hlo, hxs.mono fun _ _ => PairAt.up (k3.trans k4)⟩
end
end Fw

namespace Fw
open PySem PySem.W PySem.W.X PyProof.Rows PySem.Spec PySem.Calls

section
variable {w : World} {mg mb : Str → Option Value} {A : Around} {E : Value → Shared → Prop} {R h : Heap} {g : Array GenState} {dr : Drawn} {tk : Nat} {os : OsState} {env : Env} {led rest : Led} {δ ε : Type}

def tagScope : Scope := { kind := .function, names := [(".0", .local), ("code", .local), ("value", .local), ("DXFTag", .globalImplicit)], isGenerator := false, isCoroutine := false }

theorem pair_mono : ∀ R R' v d, Sub R R' → PairAt R v d → PairAt R' v d := fun _ _ _ _ k => PairAt.up k
theorem tag_mono : ∀ R R' v d, Sub R R' → TagAt R v d → TagAt R' v d := fun _ _ _ _ k => TagAt.up k
theorem tags_mono : ∀ R R' v d, Sub R R' → TagsAt R v d → TagsAt R' v d := fun _ _ _ _ k => TagsAt.up k
theorem grp_mono : ∀ R R' v d, Sub R R' → GrpAt R v d → GrpAt R' v d := fun _ _ _ _ k => GrpAt.up k
theorem str_mono : ∀ R R' v d, Sub R R' → StrAt R v d → StrAt R' v d := fun _ _ _ _ _ x => x
theorem list_mono {W : Heap → Value → ε → Prop} (Wm : ∀ R R' v d, Sub R R' → W R v d → W R' v d) : ∀ R R' v d, Sub R R' → ListAt W R v d → ListAt W R' v d := fun _ _ _ _ k => ListAt.up Wm k
theorem filterMap_id {α : Type} (l : List α) : l.filterMap some = l := List.filterMap_some

theorem turn_tagE {p1 p2 p3 p4 p5 p6 p7 x1} (e : Env0 env) (o : Aok 120 A) :
    Turn w mg mb A dr os PairAt TagAt some (.Call (.Name "DXFTag" p1) [.Name "code" p2, .Name "value" p3] [] p4) (.Tuple [.Name "code" p5, .Name "value" p6] x1 p7) [] (fun D => compEnvC tagScope [] D env) R :=
  turn_tag (fun D => ⟨rfl, e.glo, rfl⟩) (fun _ => rfl) (fun _ => rfl) (fun _ => rfl) o

theorem e_tags {it : Expr} {p1 p2 p3 p4 p5 p6 p7 p8 : Pos} {x1} {Q : Value → Shared → Prop} (o : Aok 340 A) (e : Env0 env)
    (q : wpAny (MD w) A (eval it env) (fun x s₁ => ∃ h₁ g₁ tk₁ R₁ ps, s₁ = ⟨h₁, g₁, dr, tk₁, os⟩ ∧ Stat w mg mb R₁ ∧ St R₁ rest h₁ ∧ ListAt PairAt R₁ x ps ∧ ps.length ≤ 1000 ∧
      ∀ v R' h' tk', Sub R₁ R' → St R' rest h' → ListAt TagAt R' v ps → Q v ⟨h', g₁, dr, tk', os⟩) E ⟨h, g, dr, tk, os⟩)
    (hs : ∀ x, foldedSetIterable it env x = pure x := by intro _; rfl) :
    wpAny (MD w) A (eval (.ListComp (.Call (.Name "DXFTag" p1) [.Name "code" p2, .Name "value" p3] [] p4) [⟨.Tuple [.Name "code" p5, .Name "value" p6] x1 p7, it, [], 0⟩] tagScope p8) env) Q E ⟨h, g, dr, tk, os⟩ := by
  refine comp_eval (mg := mg) (mb := mb) (rest := rest) PairAt TagAt some tag_mono [] o (by rfl) rfl rfl (wpAny_mono q (fun x s₁ z => ?_) fun _ _ z => z) hs
  obtain ⟨h₁, g₁, tk₁, R₁, ps, rfl, T, S, hx, hl, q⟩ := z
  refine src_list pair_mono T S hx hl (turn_tagE e (o.less 120 (by decide))) fun h₂ => ?_
  intro v R' h' g' tk' k S' hv hb
  obtain rfl := hb.2 rfl
  rw [filterMap_id] at hv
  exact q v R' h' tk' k S' hv

theorem TagsL.ofList {R : Heap} {v : Value} {ts : List Pair} (x : ListAt TagAt R v ts) : ∃ l, v = .ref l ∧ TagsL R l ts := let ⟨a, _, xs, e, e1, ⟨n, d⟩, al⟩ := x; ⟨a, e, xs, n, _, e1, d ▸ rfl, d ▸ rfl, al⟩

theorem src_gen {W : Heap → Value → ε → Prop} {F : List Pair → Option ε} {elt target : Expr} {ifs : List Expr} {cenv : Addr → Env} {D : Bool → Heap → Heap → Array GenState → List ε → Prop} {a : Addr} {i : Nat} {gst : GenState} {gs : List (List Pair)} {ld : Led}
    (T : Stat w mg mb R) (S : St R (ld ++ rest) h) (hg : R.IsGen a i) (hi : g[i]? = some gst) (X : Run w mg mb gs R ld gst) (hlen : gs.length ≤ 1000) (turn : Turn w mg mb A dr os TagsAt W F elt target ifs cenv R) (q : D false R h g (gs.filterMap F)) :
    wpAny (MD w) A (pyIter (.ref a)) (Src w mg mb A dr os TagsAt W F elt target ifs cenv rest D) E ⟨h, g, dr, tk, os⟩ :=
  wpAny_pyIter_gen (hg.keeps S.sub) ⟨false, gs, R, ld, fun g => g[i]? = some gst, h, g, tk, rfl, T, S, self_gen hg, itr_gen hg X, hi, hlen, turn, q⟩

/-- the groups come from the tags: none is empty, and there is no more in them than in the row of tags -/
theorem emit_len {sc : Int} : ∀ (ps : List Pair) (cur : Option (List Pair)), (emit sc cur ps).length ≤ ps.length + 1
  | [], none => by show 0 ≤ _; omega
  | [], some g => by show 1 ≤ _; simp
  | t :: r, none => by
    unfold emit; split
    · have := emit_len (sc := sc) r (some [t]); simp; omega
    · have := emit_len (sc := sc) r none; simp; omega
  | t :: r, some g => by
    unfold emit; split
    · have := emit_len (sc := sc) r (some [t]); simp; omega
    · have := emit_len (sc := sc) r (some (g ++ [t])); simp; omega
theorem emit_mem {sc : Int} : ∀ (ps : List Pair) (cur : Option (List Pair)) (gp : List Pair), gp ∈ emit sc cur ps → gp.length ≤ ps.length + (match cur with | none => 0 | some g => g.length)
  | [], none, gp, h => nomatch h
  | [], some g, gp, h => by cases List.mem_singleton.mp h; simp
  | t :: r, none, gp, h => by
    unfold emit at h; split at h
    · have := emit_mem r (some [t]) gp h; simp at this ⊢; omega
    · have := emit_mem r none gp h; simp at this ⊢; omega
  | t :: r, some g, gp, h => by
    unfold emit at h; split at h
    · rcases List.mem_cons.mp h with rfl | h
      · simp
      · have := emit_mem r (some [t]) gp h; simp at this ⊢; omega
    · have := emit_mem r (some (g ++ [t])) gp h; simp at this ⊢; omega
end
end Fw

namespace Fw
open PySem PySem.W PySem.W.X PyProof.Rows PySem.Spec PySem.Calls

section
variable {w : World} {mg mb : Str → Option Value} {A : Around} {E : Value → Shared → Prop} {R h : Heap} {g : Array GenState} {dr : Drawn} {tk : Nat} {os : OsState} {env : Env} {led rest : Led} {δ ε : Type}

theorem turn_self {V : Heap → Value → δ → Prop} (Vm : ∀ R R' v d, Sub R R' → V R v d → V R' v d) {cenv : Addr → Env} {x : Str} {p1 p2} (hn : ∀ D, Names (cenv D) D) (hx : ∀ D, (cenv D).kindOf x = some .local) (hd : (x == ("__debug__" : Str)) = false := by decide) :
    Turn w mg mb A dr os V V some (.Name x p1) (.Name x p2) [] cenv R := by
  intro D d v R m tail h g tk E' k T S hp
  refine st_name S (hn D) (hx D) fun h₁ tk₁ S1 => ?_
  refine wpAny_tests_nil ⟨rfl, ?_⟩
  refine ld_name S1 (hn D) (hx D) (v := v) upd_self ?_ hd
  exact ⟨h₁, tk₁, R, _, rfl, Sub.refl _, S1, hp⟩

/-- `group_tags([DXFTag(code, value) for code, value in it], ..)`, reached by its iterator -/
theorem e_group {W : Heap → Value → ε → Prop} {F : List Pair → Option ε} {elt target : Expr} {ifs : List Expr} {cenv : Addr → Env} {D : Bool → Heap → Heap → Array GenState → List ε → Prop} {it : Expr} {p0 p1 p2 p3 p4 p5 p6 p7 p8 p9 : Pos} {x1} {more : List Expr} {sc : Int} (o : Aok 400 A) (e : Env0 env) (hg : env.kindOf "group_tags" = some .globalImplicit)
    (T : Stat w mg mb R) (S : St R rest h)
    {pv : Value} {ps : List Pair} (hps : ListAt PairAt R pv ps) (hlen : ps.length ≤ 100)
    (hit : ∀ Q : Value → Shared → Prop, Q pv ⟨h, g, dr, tk, os⟩ → wpAny (MD w) A (eval it env) Q E ⟨h, g, dr, tk, os⟩)
    (hmore : (more = [] ∧ sc = 0) ∨ (∃ k p, more = [.Constant (.int sc) k p]))
    (q : ∀ R₁ h₁ g₁, Sub R R₁ → (AllBare g → AllBare g₁) → Turn w mg mb A dr os TagsAt W F elt target ifs cenv R₁ ∧ D false R₁ h₁ g₁ ((emit sc none ps).filterMap F))
    (hs : ∀ x, foldedSetIterable it env x = pure x := by intro _; rfl) :
    wpAny (MD w) A (eval (.Call (.Name "group_tags" p0) (.ListComp (.Call (.Name "DXFTag" p1) [.Name "code" p2, .Name "value" p3] [] p4) [⟨.Tuple [.Name "code" p5, .Name "value" p6] x1 p7, it, [], 0⟩] tagScope p8 :: more) [] p9) env)
      (fun x s₁ => wpAny (MD w) A (pyIter x) (Src w mg mb A dr os TagsAt W F elt target ifs cenv rest D) E s₁) E ⟨h, g, dr, tk, os⟩ := by
  have fin : ∀ (tl : Addr) R₂ h₂ tk₂ vals, Sub R R₂ → St R₂ rest h₂ → TagsL R₂ tl ps → ((vals = [.ref tl] ∧ sc = 0) ∨ ∃ tok, vals = [.ref tl, .int sc tok]) →
      wpAny (MD w) A (PySem.call (.ref 375) vals) (fun x s₁ => wpAny (MD w) A (pyIter x) (Src w mg mb A dr os TagsAt W F elt target ifs cenv rest D) E s₁) E ⟨h₂, g, dr, tk₂, os⟩ := by
    intro tl R₂ h₂ tk₂ vals k₂ S₂ X hv
    refine call_group (o.less 60 (by decide)) (T.up k₂) S₂ X hlen hv fun a h₃ tk₃ R₃ L m gst k₃ S₃ hgen hrun hbare => ?_
    obtain ⟨q1, q2⟩ := q R₃ h₃ (g.push gst) (k₂.trans k₃) (fun b => b.push hbare)
    refine src_gen (ld := [(L, NsO m)]) ((T.up k₂).up k₃) S₃ hgen (Array.getElem?_push_size) hrun ?_ q1 q2
    have := emit_len (sc := sc) ps none; omega
  refine wpAny_Call_ofName ?_
  refine ld_global (T.up S.sub) (v := .ref 375) (by kernel_rfl) ?_ e.glo e.fn hg
  rcases hmore with ⟨rfl, rfl⟩ | ⟨k, p, rfl⟩
  · refine callWith_K T.K (by kernel_rfl) ?_
    refine spl_cons ?_
    refine e_tags (mg := mg) (mb := mb) (rest := rest) (o.less 340 (by decide)) e (hit _ ⟨h, g, tk, R, ps, rfl, T, S, hps, by omega, fun v R' h' tk' k' S' hv => ?_⟩) hs
    obtain ⟨tl, rfl, X⟩ := TagsL.ofList hv
    exact spl_nil ⟨KIn.up T.K (k'.trans S'.sub), fin tl R' h' tk' _ k' S' X (.inl ⟨rfl, rfl⟩)⟩
  · refine callWith_K T.K (by kernel_rfl) ?_
    refine spl_cons ?_
    refine e_tags (mg := mg) (mb := mb) (rest := rest) (o.less 340 (by decide)) e (hit _ ⟨h, g, tk, R, ps, rfl, T, S, hps, by omega, fun v R' h' tk' k' S' hv => ?_⟩) hs
    obtain ⟨tl, rfl, X⟩ := TagsL.ofList hv
    refine spl_cons ?_
    refine k_int fun t tk₂ => ?_
    exact spl_nil ⟨KIn.up T.K (k'.trans S'.sub), fin tl R' h' tk₂ _ k' S' X (.inr ⟨t, rfl⟩)⟩

set_option maxHeartbeats 1000000 in
theorem law_5 {L : Addr} {pv : Value} {m : Str → Option Value} {ps : List Pair} {Q : Flow → Shared → Prop} (o : Aok 400 A) (T : Stat w mg mb R) (S : St R ((L, NsO m) :: led) h)
    (hc : R.IsCell (L + 1) (some pv)) (hps : ListAt PairAt R pv ps) (hlen : ps.length ≤ 67)
    (q : ∀ v h' tk' g' R', Sub R R' → St R' ((L, NsO (upd m "rows" v)) :: led) h' → ListAt TagsAt R' v (emit 0 none ps) → (AllBare g → AllBare g') → Q .next ⟨h', g', dr, tk', os⟩) :
    wpAny (MD w) A (exec (lst w 5) (lenv w L)) Q E ⟨h, g, dr, tk, os⟩ := by
  refine comp_assign (mg := mg) (mb := mb) (L := L) (m := m) (rest := led) TagsAt TagsAt some tags_mono [] (o.less 340 (by decide)) (by kernel_rfl) (by rfl) (by rfl) (by rfl) (by kernel_rfl) rfl (by kernel_rfl) ?_
  refine e_group o (lenv0 L) (by kernel_rfl) T S hps (by omega) (fun Q hq => ld_cell (by kernel_rfl) (by kernel_rfl) (c := L + 1) (by kernel_rfl) (hc.keeps S.sub) hq) (.inl ⟨rfl, rfl⟩) fun R₁ h₁ g₁ k₁ b₁ => ⟨turn_self tags_mono (fun D => names_comp (lnames L) rfl) (fun D => rfl), ?_⟩
  intro v R' h' g' tk' k' S' hv hb
  rw [filterMap_id] at hv
  exact q v h' tk' g' R' (k₁.trans k') S' hv fun b => hb.1 (b₁ b)
end
end Fw

namespace Fw
open PySem PySem.W PySem.W.X PyProof.Rows PySem.Spec PySem.Calls

def Rd (h : Heap) (v : Value) (d : PyData) : Prop := ∃ as, Reads h v d as
theorem Rd.up {R h : Heap} (k : Sub R h) {v d} (x : Rd R v d) : Rd h v d := let ⟨as, r⟩ := x; ⟨as, Reads.keeps k r⟩
def Shp (n : Nat) (d : PyData) : Prop := PyData.canLay0 d = true ∧ PyData.depth d ≤ n
theorem Shp.all {n : Nat} : ∀ {xs : List PyData}, (∀ x ∈ xs, Shp n x) → PyData.canLayAll0 xs = true ∧ PyData.depthAll xs ≤ n
  | [], _ => ⟨rfl, Nat.zero_le _⟩
  | x :: xs, h => by
    obtain ⟨h1, h2⟩ := h x (.head _)
    obtain ⟨h3, h4⟩ := Shp.all (xs := xs) fun y hy => h y (.tail _ hy)
    exact ⟨by rw [PyData.canLayAll0, h1, h3]; rfl, by rw [PyData.depthAll]; omega⟩
theorem Shp.list {n : Nat} {xs : List PyData} (h : ∀ x ∈ xs, Shp n x) : Shp (n + 1) (.list xs) := by
  obtain ⟨h1, h2⟩ := Shp.all h
  exact ⟨by rw [PyData.canLay0]; exact h1, by rw [PyData.depth]; omega⟩
theorem Shp.tuple {n : Nat} {xs : List PyData} (h : ∀ x ∈ xs, Shp n x) : Shp (n + 1) (.tuple xs) := by
  obtain ⟨h1, h2⟩ := Shp.all h
  exact ⟨by rw [PyData.canLay0]; exact h1, by rw [PyData.depth]; omega⟩
theorem Shp.shaped {n : Nat} {d : PyData} (x : Shp n d) (h : n ≤ 64) : SeqAt.shaped d = true := by
  unfold SeqAt.shaped
  rw [Bool.and_eq_true, decide_eq_true_eq]
  exact ⟨x.1, Nat.le_trans x.2 h⟩

def dStr (x : Str) : PyData := .str x
def dPair (p : Pair) : PyData := .tuple [.int p.1, .str p.2]
def dGrp (gp : List Pair) : PyData := .list (gp.map dPair)
def dGrps (gs : List (List Pair)) : PyData := .list (gs.map dGrp)
def OkP (ps : List Pair) : Prop := ∀ p ∈ ps, PyData.strOk p.2 = true
def OkG (gs : List (List Pair)) : Prop := ∀ gp ∈ gs, OkP gp
theorem shp_str {x : Str} (h : PyData.strOk x = true) : Shp 0 (.str x) := ⟨by rw [PyData.canLay0]; exact h, by rw [PyData.depth]; exact Nat.le_refl _⟩
theorem shp_pair {p : Pair} (h : PyData.strOk p.2 = true) : Shp 1 (dPair p) := Shp.tuple fun x hx => by
  rcases List.mem_cons.mp hx with rfl | hx
  · exact ⟨by rw [PyData.canLay0], by rw [PyData.depth]; exact Nat.le_refl _⟩
  · cases List.mem_singleton.mp hx; exact shp_str h
theorem shp_grp {gp : List Pair} (h : OkP gp) : Shp 2 (dGrp gp) := Shp.list fun x hx => by
  obtain ⟨p, hp, rfl⟩ := List.mem_map.mp hx; exact shp_pair (h p hp)
theorem shp_grps {gs : List (List Pair)} (h : OkG gs) : Shp 3 (dGrps gs) := Shp.list fun x hx => by
  obtain ⟨p, hp, rfl⟩ := List.mem_map.mp hx; exact shp_grp (h p hp)

section
variable {δ ε : Type} {R h : Heap}
theorem rd_pair {v : Value} {p : Pair} (x : PairAt h v p) : Rd h v (dPair p) := by
  obtain ⟨a, t1, t2, n, rfl, e⟩ := x
  exact ⟨_, Reads.tuple e rfl rfl (.cons (.int _ _) (.cons (.str _ _) .nil))⟩
theorem rd_str {v : Value} {x : Str} (z : StrAt h v x) : Rd h v (.str x) := by
  obtain ⟨t, rfl⟩ := z; exact ⟨_, Reads.str _ _⟩
theorem rd_all {W : Heap → Value → ε → Prop} {enc : ε → PyData} (k : ∀ v e, W h v e → Rd h v (enc e)) : ∀ {xs : List Value} {es : List ε}, All2 (W h) xs es → ∃ as, ReadsAll h xs (es.map enc) as
  | _, _, .nil => ⟨_, .nil⟩
  | _, _, .cons x r => by
    obtain ⟨as, ra⟩ := k _ _ x
    obtain ⟨bs, rb⟩ := rd_all k r
    exact ⟨_, .cons ra rb⟩
theorem rd_list {W : Heap → Value → ε → Prop} {enc : ε → PyData} (k : ∀ v e, W h v e → Rd h v (enc e)) {v : Value} {es : List ε} (x : ListAt W h v es) : Rd h v (.list (es.map enc)) := by
  obtain ⟨a, _, xs, rfl, e, ⟨n, rfl⟩, al⟩ := x
  obtain ⟨as, r⟩ := rd_all k al
  exact ⟨_, Reads.list e rfl rfl r⟩
theorem rd_grp {v : Value} {gp : List Pair} (x : GrpAt h v gp) : Rd h v (dGrp gp) := rd_list (fun _ _ => rd_pair) x
theorem rd_grps {v : Value} {gs : List (List Pair)} (x : ListAt GrpAt h v gs) : Rd h v (dGrps gs) := rd_list (fun _ _ => rd_grp) x
end

section
variable {w : World} {mg mb : Str → Option Value} {A : Around} {E : Value → Shared → Prop} {R h : Heap} {g : Array GenState} {dr : Drawn} {tk : Nat} {os : OsState} {env : Env} {led rest : Led} {δ ε : Type}

theorem ne_same {a b : Value} {d : PyData} {n : Nat} {s : Shared} {Q : Value → Shared → Prop} (o : Aok 100 A) (ra : Rd s.heap a d) (rb : Rd s.heap b d) (hs : Shp n d) (hn : n ≤ 64) (q : Q (.bool false) s) : wpAny (MD w) A (compareOp .NotEq a b) Q E s := by
  obtain ⟨as, ra⟩ := ra
  obtain ⟨bs, rb⟩ := rb
  refine ne_dataH ra rb (hs.shaped hn) (hs.shaped hn) (by have := o.un; show A.units + 64 < 9900; omega) ?_
  rw [SeqAt.eqv_refl d hs.1]; exact q
theorem eqv_pair (p q : Pair) : PyData.eqv (dPair p) (dPair q) = decide (p = q) := by
  obtain ⟨a, b⟩ := p
  obtain ⟨c, d⟩ := q
  simp only [dPair, PyData.eqv, PyData.eqvAll, Bool.and_true, Prod.mk.injEq]
  by_cases h1 : a = c <;> by_cases h2 : b = d <;> simp [h1, h2]

theorem emit_ok {sc : Int} : ∀ (ps : List Pair) (cur : Option (List Pair)), OkP ps → (∀ g, cur = some g → OkP g) → OkG (emit sc cur ps)
  | [], none, _, _ => fun gp h => nomatch h
  | [], some g, _, hc => fun gp h => by cases List.mem_singleton.mp h; exact hc _ rfl
  | t :: r, none, h, hc => by
    unfold emit; split
    · exact emit_ok r _ (fun p hp => h p (.tail _ hp)) fun g e => by cases e; exact fun p hp => by cases List.mem_singleton.mp hp; exact h _ (.head _)
    · exact emit_ok r _ (fun p hp => h p (.tail _ hp)) fun g e => nomatch e
  | t :: r, some g, h, hc => by
    unfold emit; split
    · refine fun gp hgp => ?_
      rcases List.mem_cons.mp hgp with rfl | hgp
      · exact hc _ rfl
      · exact emit_ok r _ (fun p hp => h p (.tail _ hp)) (fun g e => by cases e; exact fun p hp => by cases List.mem_singleton.mp hp; exact h _ (.head _)) gp hgp
    · exact emit_ok r _ (fun p hp => h p (.tail _ hp)) fun g' e => by
        cases e
        exact fun p hp => by
          rcases List.mem_append.mp hp with z | z
          · exact hc _ rfl p z
          · cases List.mem_singleton.mp z; exact h _ (.head _)
end
end Fw

namespace Fw
open PySem PySem.W PySem.W.X PyProof.Rows PySem.Spec PySem.Calls

section
variable {w : World} {mg mb : Str → Option Value} {A : Around} {E : Value → Shared → Prop} {R h : Heap} {g : Array GenState} {dr : Drawn} {tk : Nat} {os : OsState} {env : Env} {led rest : Led} {δ ε : Type}

theorem map_some {α β : Type} (f : α → β) (l : List α) : l.filterMap (fun x => some (f x)) = l.map f := by
  induction l with
  | nil => rfl
  | cons a r ih => rw [List.filterMap_cons, ih]; rfl
theorem map_fm_id (gs : List (List Pair)) : gs.filterMap (fun gp => some (gp.filterMap some)) = gs := by
  have e : (fun gp : List Pair => some (gp.filterMap some)) = some := funext fun gp => by rw [filterMap_id]
  rw [e, filterMap_id]
theorem c_builtin {pos : Pos} {id : String} {e : Expr} {es : List Expr} {s : Shared} {Q : Value → Shared → Prop} (q : wpAny (MD w) A (spliced (backTo pos (starEach (e :: es) env))) (fun vs s₁ => wpAny (MD w) A (call (.builtin id) vs) Q E s₁) E s)
    (he : starEach (e :: es) env = (false, eval e env) :: starEach es env := by rfl) (hp : (backTo pos (starEach es env)).any (·.1) = false := by rfl) :
    wpAny (MD w) A (callWith pos (.builtin id) [] (backTo pos (starEach (e :: es) env)) []) Q E s := by
  rw [he] at q ⊢
  exact Calls.callWith_builtin (by show (false || (backTo pos (starEach es env)).any (·.1)) = false; rw [hp]; rfl) (Calls.evalArgs_plain q)

theorem rd_nil {a : Addr} {o : Obj} (e : h.get? a = some o) (l : LsO #[] o) : Rd h (.ref a) (.list []) := by
  obtain ⟨n, rfl⟩ := l
  exact ⟨_, Reads.list e rfl rfl .nil⟩
theorem rd_nilL {W : Heap → Value → ε → Prop} {v : Value} (x : ListAt W h v []) : Rd h v (.list []) := by
  obtain ⟨a, o, xs, rfl, e, l, al⟩ := x
  cases al
  exact rd_nil e l
def tagsScope : Scope := { kind := .function, names := [(".0", .local), ("tag", .local)], isGenerator := false, isCoroutine := false }
def groupScope : Scope := { kind := .function, names := [(".0", .local), ("group", .local)], isGenerator := false, isCoroutine := false }
def isiScope : Scope := { kind := .function, names := [(".0", .local), ("group", .local), ("isinstance", .globalImplicit), ("Tags", .globalImplicit)], isGenerator := false, isCoroutine := false }

/-- `[[(tag.code, tag.value) for tag in group] for group in it]` over a list of groups -/
theorem turn_pairs {p1 p2 p3 p4 p5 p6 p7 p8 p9 : Pos} {x1} (e : Env0 env) (o : Aok 340 A) :
    Turn w mg mb A dr os TagsAt GrpAt (fun gp => some (gp.filterMap some)) (.ListComp (.Tuple [.Attribute (.Name "tag" p1) "code" p2, .Attribute (.Name "tag" p3) "value" p4] x1 p5) [⟨.Name "tag" p6, .Name "group" p7, [], 0⟩] tagsScope p8) (.Name "group" p9) [] (fun D => compEnvC groupScope [] D env) R :=
  turn_group (scope := tagsScope) pair_mono (fun D => ⟨rfl, e.glo, rfl⟩) (fun D => rfl) (by rfl) rfl (fun D => rfl) o (fun D R => turn_pair (fun D' => ⟨rfl, e.glo, rfl⟩) (fun D' => rfl) (o.less 120 (by decide)))
/-- `[tag.value for tag in group]` for each -/
theorem turn_vals {p1 p2 p6 p7 p8 p9 : Pos} (e : Env0 env) (o : Aok 340 A) :
    Turn w mg mb A dr os TagsAt (ListAt StrAt) (fun gp => some (gp.filterMap fun p => some p.2)) (.ListComp (.Attribute (.Name "tag" p1) "value" p2) [⟨.Name "tag" p6, .Name "group" p7, [], 0⟩] tagsScope p8) (.Name "group" p9) [] (fun D => compEnvC groupScope [] D env) R :=
  turn_group (scope := tagsScope) str_mono (fun D => ⟨rfl, e.glo, rfl⟩) (fun D => rfl) (by rfl) rfl (fun D => rfl) o (fun D R => turn_val (fun D' => ⟨rfl, e.glo, rfl⟩) (fun D' => rfl) (o.less 120 (by decide)))

theorem turn_isi {p1 p2 p3 p4 p5 p6 p7 : Pos} (e : Env0 env) (o : Aok 340 A) :
    Turn w mg mb A dr os TagsAt TagsAt (fun _ => none) (.Name "group" p1) (.Name "group" p2) [.UnaryOp .Not (.Call (.Name "isinstance" p3) [.Name "group" p4, .Name "Tags" p5] [] p6) p7] (fun D => compEnvC isiScope [] D env) R := by
  intro D d v R m tail h g tk E' k T S hp
  have n : Names (compEnvC isiScope [] D env) D := ⟨rfl, e.glo, rfl⟩
  obtain ⟨a, dd, vs, nn, rfl, e1, e2, _, _⟩ := hp
  refine st_name S n rfl fun h₁ tk₁ S1 => ?_
  refine wpAny_tests_one ?_
  refine isTrue_not ?_
  refine wpAny_isTrue_value ?_
  refine wpAny_Call_ofName ?_
  refine ld_builtin (T.up S1.sub) (v := .builtin "isinstance") (by kernel_rfl) (by kernel_rfl) (by decide) ?_ e.glo e.bui rfl rfl
  refine c_builtin ?_
  refine spl_cons ?_
  refine ld_name S1 n rfl upd_self ?_
  refine spl_cons ?_
  refine ld_global (T.up S1.sub) (v := .ref 363) (by kernel_rfl) ?_ e.glo rfl rfl
  refine spl_nil ?_
  refine wpAny_mono (wpAny_AB (o.less 100 (by decide)) (isTags_run w h₁ g dr tk₁ os (KIn.up T.K S1.sub) a dd vs.toArray nn (S1.sub _ _ e1))) ?_ fun _ _ z => False.elim z
  rintro v s' ⟨h₂, tk₂, rfl, rfl, k₂⟩
  refine wpAny_truthy_bool ?_
  exact ⟨rfl, h₂, tk₂, R, _, rfl, Sub.refl _, S1.ext k₂⟩

set_option maxHeartbeats 2000000 in
theorem law_6 {L : Addr} {rv gv : Value} {m : Str → Option Value} {gs : List (List Pair)} {Q : Flow → Shared → Prop} (o : Aok 400 A) (T : Stat w mg mb R) (S : St R ((L, NsO m) :: led) h)
    (hr : m "rows" = some rv) (hg : m "groups" = some gv) (hrv : ListAt TagsAt R rv gs) (hgv : ListAt GrpAt R gv gs) (hlen : gs.length ≤ 1000) (hok : OkG gs)
    (q : ∀ h' tk' R', Sub R R' → St R' ((L, NsO m) :: led) h' → Q .next ⟨h', g, dr, tk', os⟩) :
    wpAny (MD w) A (exec (lst w 6) (lenv w L)) Q E ⟨h, g, dr, tk, os⟩ := by
  refine wpAny_If ?_
  refine isTrue_or ?_
  refine wpAny_isTrue_Compare1 ?_
  refine comp_eval (mg := mg) (mb := mb) (rest := (L, NsO m) :: led) TagsAt GrpAt (fun gp => some (gp.filterMap some)) grp_mono [] (o.less 340 (by decide)) (by kernel_rfl) (by rfl) (by rfl) ?_
  refine ld_name S (lnames L) (by kernel_rfl) hr ?_
  refine src_list tags_mono T S hrv hlen (turn_pairs (lenv0 L) (o.less 340 (by decide))) fun h₁ => ?_
  intro v R1 h1 g1 tk1 k1 S1 hv hb
  obtain rfl := hb.2 rfl
  rw [map_fm_id] at hv
  refine ld_name S1 (lnames L) (by kernel_rfl) hg ?_
  refine ne_same (o.less 100 (by decide)) ((rd_grps hv).up S1.sub) ((rd_grps (hgv.up grp_mono k1)).up S1.sub) (shp_grps hok) (by decide) ?_
  refine wpAny_truthy_bool ?_
  rw [if_neg Bool.false_ne_true]
  refine isTrue_or ?_
  refine wpAny_isTrue_Compare1 ?_
  refine comp_eval (mg := mg) (mb := mb) (rest := (L, NsO m) :: led) TagsAt TagsAt (fun _ => none) tags_mono [] (o.less 340 (by decide)) (by kernel_rfl) (by rfl) (by rfl) ?_
  refine ld_name S1 (lnames L) (by kernel_rfl) hr ?_
  refine src_list tags_mono (T.up k1) S1 (hrv.up tags_mono k1) hlen (turn_isi (lenv0 L) (o.less 340 (by decide))) fun h₁ => ?_
  intro v2 R2 h2 g2 tk2 k2 S2 hv2 hb2
  obtain rfl := hb2.2 rfl
  have hnil : gs.filterMap (fun _ => (none : Option (List Pair))) = [] := by simp
  rw [hnil] at hv2
  refine e_list ?_
  refine spl_nil ⟨by show 0 ≤ 1000; omega, h2, g2, tk2, R2, _, rfl, S2, fun a h3 S3 => ?_⟩
  obtain ⟨R3, k3, S4, ⟨oo, eo, ho⟩, _⟩ := S3.freezeHead
  have hnl : Rd h3 (.ref a) (.list []) := Rd.up S4.sub (rd_nil eo ho)
  have hn2 : Rd h3 v2 (.list []) := Rd.up (S4.sub) ((rd_nilL hv2).up k3)
  refine ne_same (n := 1) (o.less 100 (by decide)) hn2 hnl (Shp.list fun x hx => nomatch hx) (by decide) ?_
  refine wpAny_truthy_bool ?_
  rw [if_neg Bool.false_ne_true]
  refine isTrue_or_nil ?_
  rw [if_neg Bool.false_ne_true]
  refine wpAny_execs_nil ?_
  exact q h3 tk2 R3 (k1.trans (k2.trans k3)) S4
end
end Fw

namespace Fw
open PySem PySem.W PySem.W.X PyProof.Rows PySem.Spec PySem.Calls

section
variable {w : World} {mg mb : Str → Option Value} {A : Around} {E : Value → Shared → Prop} {R h : Heap} {g : Array GenState} {dr : Drawn} {tk : Nat} {os : OsState} {env : Env} {led rest : Led} {δ ε : Type}

set_option maxHeartbeats 1000000 in
theorem law_7 {L : Addr} {pv : Value} {m : Str → Option Value} {ps : List Pair} {Q : Flow → Shared → Prop} (o : Aok 400 A) (T : Stat w mg mb R) (S : St R ((L, NsO m) :: led) h)
    (hc : R.IsCell (L + 1) (some pv)) (hps : ListAt PairAt R pv ps) (hlen : ps.length ≤ 67)
    (q : ∀ v h' tk' g' R', Sub R R' → St R' ((L, NsO (upd m "by" v)) :: led) h' → ListAt (ListAt StrAt) R' v ((emit 2 none ps).map fun gp => gp.map (·.2)) → (AllBare g → AllBare g') → Q .next ⟨h', g', dr, tk', os⟩) :
    wpAny (MD w) A (exec (lst w 7) (lenv w L)) Q E ⟨h, g, dr, tk, os⟩ := by
  refine comp_assign (mg := mg) (mb := mb) (L := L) (m := m) (rest := led) TagsAt (ListAt StrAt) (fun gp => some (gp.filterMap fun p => some p.2)) (list_mono str_mono) [] (o.less 340 (by decide)) (by kernel_rfl) (by rfl) (by rfl) (by rfl) (by kernel_rfl) rfl (by kernel_rfl) ?_
  refine e_group (sc := 2) o (lenv0 L) (by kernel_rfl) T S hps (by omega) (fun Q hq => ld_cell (by kernel_rfl) (by kernel_rfl) (c := L + 1) (by kernel_rfl) (hc.keeps S.sub) hq) (.inr ⟨_, _, rfl⟩) fun R₁ h₁ g₁ k₁ b₁ => ⟨turn_vals (lenv0 L) (o.less 340 (by decide)), ?_⟩
  intro v R' h' g' tk' k' S' hv hb
  rw [map_some] at hv
  have e : (List.filterMap fun p : Pair => some p.2) = fun gp => gp.map (·.2) := funext fun gp => map_some _ _
  rw [e] at hv
  exact q v h' tk' g' R' (k₁.trans k') S' hv fun b => hb.1 (b₁ b)

def IdxAt (B : Nat) (_ : Heap) (v : Value) (k : Nat) : Prop := (∃ t, v = .int k t) ∧ k < B
theorem idx_mono {B : Nat} : ∀ R R' v d, Sub R R' → IdxAt B R v d → IdxAt B R' v d := fun _ _ _ _ _ x => x
def RgO (x left : Int) (o : Obj) : Prop := o = { cls := .type "range_iterator", data := .fields #[rawInt x, rawInt left, rawInt 1] }
theorem itr_range {it : Addr} {B : Nat} : ∀ {n i : Nat} {R : Heap}, i + n ≤ B → Itr w mg mb true (IdxAt B) (.ref it) (List.range' i n) R [(it, RgO i n)] fun _ => True
  | 0, i, R, hB => fun A R2 rest h g dr tk os Q E oA k T S _ q => by
    obtain ⟨oo, e, rfl⟩ := S.head
    refine wpAny_pyNext_range_end (x := i) (left := 0) (step := 1) oA.hd e (by omega) fun h₁ hs => ?_
    exact q h₁ tk R2 g (Sub.refl _) (S.dropHead hs) .refl
  | n + 1, i, R, hB => fun A R2 rest h g dr tk os Q E oA k T S _ q => by
    obtain ⟨oo, e, rfl⟩ := S.head
    refine wpAny_pyNext_range_item (x := i) (left := ((n + 1 : Nat) : Int)) (step := 1) e (by omega) fun h₁ e₁ hs => ?_
    have S1 := S.ch (P' := RgO ((i + 1 : Nat) : Int) (n : Nat)) hs.extBut ⟨_, e₁, by unfold RgO; rw [show ((n + 1 : Nat) : Int) - 1 = (n : Int) by omega]; rfl⟩
    exact q _ h₁ _ R2 g [(it, RgO ((i + 1 : Nat) : Int) (n : Nat))] _ (Sub.refl _) S1 .refl ⟨⟨_, rfl⟩, by omega⟩ trivial (fun _ _ => trivial) (NoOwn.of e₁ rfl (by decide)) (itr_range (by omega))
theorem self_range {it : Addr} {i n : Int} : Self w (.ref it) R [(it, RgO i n)] := fun A R2 rest h g dr tk os Q E k S q => by
  obtain ⟨oo, e, rfl⟩ := S.head
  exact wpAny_pyIter_rangeiter e q

/-- `range(x)`, reached by its iterator -/
theorem e_range {W : Heap → Value → ε → Prop} {F : Nat → Option ε} {elt target : Expr} {ifs : List Expr} {cenv : Addr → Env} {D : Bool → Heap → Heap → Array GenState → List ε → Prop} {x : Expr} {p0 p1 : Pos} {n : Nat} (e : Env0 env) (hg : env.kindOf "range" = some .globalImplicit)
    (T : Stat w mg mb R) (S : St R rest h)
    (hx : wpAny (MD w) A (eval x env) (fun v s₁ => ∃ t h₁ tk₁ R₁, v = .int n t ∧ s₁ = ⟨h₁, g, dr, tk₁, os⟩ ∧ Sub R R₁ ∧ St R₁ rest h₁ ∧ n ≤ 1000 ∧ Turn w mg mb A dr os (IdxAt n) W F elt target ifs cenv R₁ ∧ ∀ h', D true R₁ h' g ((List.range n).filterMap F)) E ⟨h, g, dr, tk, os⟩)
    (he : starEach [x] env = [(false, eval x env)] := by rfl) :
    wpAny (MD w) A (eval (.Call (.Name "range" p0) [x] [] p1) env)
      (fun x s₁ => wpAny (MD w) A (pyIter x) (Src w mg mb A dr os (IdxAt n) W F elt target ifs cenv rest D) E s₁) E ⟨h, g, dr, tk, os⟩ := by
  refine wpAny_Call_ofName ?_
  refine ld_builtin (T.up S.sub) (v := .type "range") (by kernel_rfl) (by kernel_rfl) (by decide) ?_ e.glo e.bui e.fn hg
  refine c_type1 (wpAny_mono hx (fun v s₁ z => ?_) fun _ _ z => z) he
  obtain ⟨t, h₁, tk₁, R₁, rfl, rfl, k₁, S1, hn, turn, q⟩ := z
  refine call_range_1 ?_
  refine wpAny_pyIter_range (IsRange.new _ _ _ _ _ _ _) (small_one (by omega) (by omega) (by omega) (by omega)) ?_
  refine ⟨true, List.range' 0 n, R₁, [(_, RgO ((0 : Nat) : Int) (n : Nat))], fun _ => True, _, g, _, rfl, T.up k₁, ?_, self_range, itr_range (by omega), trivial, by rw [List.length_range']; exact hn, turn, ?_⟩
  · have S2 := S1.ext (Sub.push h₁ { cls := .type "range", data := .fields #[.int 0 tk₁, .int n t, .int 1 (tk₁ + 1)] })
    exact S2.push (o := { cls := .type "range_iterator", data := .fields #[rawInt 0, rawInt (Builtin.Range.rangeSize 0 n 1), rawInt 1] }) (P := RgO ((0 : Nat) : Int) (n : Nat)) (by unfold RgO; rw [rangeSize_nat]; simp)
  · rw [← List.range_eq_range']; exact q _
end
end Fw

namespace Fw
open PySem PySem.W PySem.W.X PyProof.Rows PySem.Spec PySem.Calls

def plcF (ps : List Pair) (k : Nat) : Option Nat := if (ps[k]?.map (·.1)) = some 2 then some k else none
def placesOf (ps : List Pair) : List Nat := (List.range ps.length).filterMap (plcF ps) ++ [ps.length]
def placesScope : Scope := { kind := .function, names := [(".0", .local), ("k", .local), ("pairs", .free)], isGenerator := false, isCoroutine := false }
def byScope : Scope := { kind := .function, names := [(".0", .local), ("k", .local), ("pairs", .free), ("places", .free)], isGenerator := false, isCoroutine := false }

section
variable {w : World} {mg mb : Str → Option Value} {A : Around} {E : Value → Shared → Prop} {R h : Heap} {g : Array GenState} {dr : Drawn} {tk : Nat} {os : OsState} {env : Env} {led rest : Led} {δ ε : Type}

theorem All2.drop {α β : Type} {P : α → β → Prop} : ∀ {as : List α} {bs : List β}, All2 P as bs → ∀ k, All2 P (as.drop k) (bs.drop k)
  | _, _, .nil, k => by simp; exact .nil
  | _, _, .cons h r, 0 => .cons h r
  | _, _, .cons h r, k + 1 => r.drop k
theorem ListAt.isList {W : Heap → Value → ε → Prop} {v : Value} {es : List ε} (S : St R led h) (x : ListAt W R v es) : ∃ a xs, v = .ref a ∧ h.IsList a (List.toArray xs) ∧ All2 (W R) xs es := by
  obtain ⟨a, o, xs, rfl, e, l, al⟩ := x
  exact ⟨a, xs, rfl, LsO.isList ⟨o, S.sub _ _ e, l⟩, al⟩

theorem turn_places {L : Addr} {pv : Value} {ps : List Pair} {p1 p2 p3 p4 p5 p6 p7 p8 p9 : Pos} {k1 k2 : Nat} (hc : R.IsCell (L + 1) (some pv)) (hps : ListAt PairAt R pv ps) (hlen : ps.length ≤ 1000) :
    Turn w mg mb A dr os (IdxAt ps.length) (IdxAt ps.length) (plcF ps) (.Name "k" p1) (.Name "k" p2)
      [.Compare (.Subscript (.Subscript (.Name "pairs" p3) (.Name "k" p4) p5) (.Constant (.int 0) k1 p6) p7) [.Eq] [.Constant (.int 2) k2 p8] p9] (fun D => compEnvC placesScope [("pairs", L + 1)] D (lenv w L)) R := by
  intro D k v R' m tail h g tk E' kk T S hv
  obtain ⟨⟨t, rfl⟩, hk⟩ := hv
  have n : Names (compEnvC placesScope [("pairs", L + 1)] D (lenv w L)) D := ⟨rfl, (lenv0 (w := w) L).glo, rfl⟩
  refine st_name S n (by kernel_rfl) fun h₁ tk₁ S1 => ?_
  refine wpAny_tests_one ?_
  refine wpAny_isTrue_Compare1 ?_
  refine sub_rule ?_
  refine sub_rule ?_
  refine ld_cell rfl (by kernel_rfl) (c := L + 1) rfl ((hc.keeps kk).keeps S1.sub) ?_
  refine ld_name S1 n (by kernel_rfl) upd_self ?_
  obtain ⟨a, xs, rfl, hl, al⟩ := ListAt.isList S1 (hps.up pair_mono kk)
  obtain ⟨u, eu, hu⟩ := al.get (List.getElem?_eq_getElem hk)
  refine item_list hl (by omega) (by omega) (x := u) (by simpa using eu) ?_
  obtain ⟨pa, t1, t2, pn, rfl, ep⟩ := hu
  refine k_int fun t3 tk3 => ?_
  refine item_tup ⟨_, S1.sub _ _ ep, rfl, pn, rfl⟩ (by omega) (by omega) (x := .int ps[k].1 t1) rfl ?_
  refine k_int fun t4 tk4 => ?_
  refine PyProof.Rows.eq_int ?_
  refine wpAny_truthy_bool ?_
  have hF : plcF ps k = if ps[k].1 = 2 then some k else none := by
    unfold plcF; rw [List.getElem?_eq_getElem hk]; simp
  rw [hF]
  by_cases h2 : ps[k].1 = 2
  · rw [if_pos h2]
    refine ⟨by rw [h2]; rfl, ?_⟩
    refine ld_name S1 n (by kernel_rfl) upd_self ?_
    exact ⟨h₁, tk4, R', _, rfl, Sub.refl _, S1, ⟨t, rfl⟩, hk⟩
  · rw [if_neg h2]
    exact ⟨by simpa using h2, h₁, tk4, R', _, rfl, Sub.refl _, S1⟩

set_option maxHeartbeats 2000000 in
theorem law_8 {L : Addr} {pv : Value} {v₀ : Option Value} {m : Str → Option Value} {ps : List Pair} {Q : Flow → Shared → Prop} (o : Aok 400 A) (T : Stat w mg mb R) (S : St R ((L, NsO m) :: (L + 2, CeO v₀) :: led) h)
    (hc : R.IsCell (L + 1) (some pv)) (hps : ListAt PairAt R pv ps) (hlen : ps.length ≤ 67)
    (q : ∀ v h' tk' R', Sub R R' → St R' ((L, NsO m) :: led) h' → R'.IsCell (L + 2) (some v) → ListAt (IdxAt (ps.length + 1)) R' v (placesOf ps) → Q .next ⟨h', g, dr, tk', os⟩) :
    wpAny (MD w) A (exec (lst w 8) (lenv w L)) Q E ⟨h, g, dr, tk, os⟩ := by
  refine wpAny_Assign_Name ?_
  refine wpAny_BinOp ?_
  refine comp_eval (mg := mg) (mb := mb) (rest := (L, NsO m) :: (L + 2, CeO v₀) :: led) (IdxAt ps.length) (IdxAt ps.length) (plcF ps) idx_mono [("pairs", L + 1)] (o.less 340 (by decide)) (by kernel_rfl) (by rfl) (by rfl) ?_
  obtain ⟨a, xs, rfl, hl, al⟩ := ListAt.isList S hps
  have hxl := al.length
  refine e_range (n := ps.length) (lenv0 L) (by kernel_rfl) T S ?_
  refine e_len (lenv0 L) (by kernel_rfl) (T.up S.sub) ?_
  refine ld_cell (by kernel_rfl) (by kernel_rfl) (c := L + 1) (by kernel_rfl) (hc.keeps S.sub) ?_
  refine ⟨a, xs.toArray, h, g, tk, rfl, rfl, hl, by rw [List.size_toArray]; omega, fun t1 tk1 => ?_⟩
  refine ⟨t1, h, tk1, R, by rw [List.size_toArray, hxl], rfl, Sub.refl _, S, by omega, turn_places hc hps (by omega), fun h1 => ?_⟩
  intro v2 R2 h2 g2 tk2 k2 S2 hv2 hb
  obtain rfl := hb.2 rfl
  refine e_list ?_
  refine spl_cons ?_
  refine e_len (lenv0 L) (by kernel_rfl) ((T.up k2).up S2.sub) ?_
  refine ld_cell (by kernel_rfl) (by kernel_rfl) (c := L + 1) (by kernel_rfl) ((hc.keeps k2).keeps S2.sub) ?_
  obtain ⟨a', xs', ea, hl', al'⟩ := ListAt.isList S2 (hps.up pair_mono k2)
  cases ea
  have hxl' := al'.length
  refine ⟨a, xs'.toArray, h2, g2, tk2, rfl, rfl, hl', by rw [List.size_toArray]; omega, fun t3 tk3 => ?_⟩
  refine spl_nil ⟨by show 1 ≤ 1000; omega, h2, g2, tk3, R2, _, rfl, S2, fun b h4 S4 => ?_⟩
  obtain ⟨va, vo, vxs, rfl, eva, ⟨vn, rfl⟩, val⟩ := hv2
  obtain ⟨_, eb, bn, rfl⟩ := S4.head
  have hpl : vxs.length ≤ 67 := by
    rw [val.length]
    have := List.length_filterMap_le (plcF ps) (List.range ps.length)
    rw [List.length_range] at this; omega
  refine o_addl S4 (S4.sub _ _ eva) eb (by rw [List.size_toArray]; show vxs.length + 1 ≤ 1000; omega) fun c h5 S5 => ?_
  have S6 := S5.tail2
  refine st_cell (by kernel_rfl) (by kernel_rfl) (by kernel_rfl) S6.f2 fun h7 S7 => ?_
  obtain ⟨R8, k8, S8, ⟨oc, eoc, hoc⟩, _⟩ := S7.freezeHead
  obtain ⟨R9, k9, S9, ⟨ol, eol, hol⟩, _⟩ := S8.freezeHead
  refine q (.ref c) h7 tk3 R9 (k2.trans (k8.trans k9)) S9 ⟨oc, k9 _ _ eoc, hoc⟩ ⟨c, ol, vxs ++ [.int xs'.toArray.size t3], rfl, eol, ?_, ?_⟩
  · have e : ∀ (l : List Value) (x : Value), (l ++ [x]).toArray = l.toArray ++ [x].toArray := fun l x => by simp
    rw [e]; exact hol
  · refine All2.snoc ⟨⟨t3, by rw [List.size_toArray, hxl']⟩, Nat.lt_succ_self _⟩ (val.mono fun a b z => ?_)
    exact ⟨z.1, Nat.lt_succ_of_lt z.2⟩

theorem getD_lt {l : List Nat} {k : Nat} (h : k < l.length) : l.getD k 0 = l[k] := by rw [List.getD_eq_getElem?_getD, List.getElem?_eq_getElem h]; rfl
/-- a slice of the pairs -/
def sl (ps : List Pair) (pl : List Nat) (k : Nat) : List Str := (((ps.drop (pl.getD k 0)).take (pl.getD (k + 1) 0 - pl.getD k 0))).map (·.2)
def pairScope : Scope := { kind := .function, names := [(".0", .local), ("pair", .local)], isGenerator := false, isCoroutine := false }

theorem turn_snd {p1 p2 p3 p4 : Pos} {k1 : Nat} (e : Env0 env) : Turn w mg mb A dr os PairAt StrAt (fun p => some p.2) (.Subscript (.Name "pair" p1) (.Constant (.int 1) k1 p2) p3) (.Name "pair" p4) [] (fun D => compEnvC pairScope [] D env) R := by
  intro D p v R' m tail h g tk E' kk T S hv
  obtain ⟨a, t1, t2, n, rfl, ea⟩ := hv
  have nm : Names (compEnvC pairScope [] D env) D := ⟨rfl, e.glo, rfl⟩
  refine st_name S nm rfl fun h₁ tk₁ S1 => ?_
  refine wpAny_tests_nil ⟨rfl, ?_⟩
  refine e_pairItem S1 nm rfl upd_self ea (u := .str p.2 t2) ⟨by omega, by omega⟩ rfl fun tk2 => ?_
  exact ⟨h₁, tk2, R', _, rfl, Sub.refl _, S1, t2, rfl⟩

def dStrs (xs : List Str) : PyData := .list (xs.map .str)
theorem shp_strs {xs : List Str} (h : ∀ x ∈ xs, PyData.strOk x = true) : Shp 1 (dStrs xs) := Shp.list fun d hd => by
  obtain ⟨x, hx, rfl⟩ := List.mem_map.mp hd; exact shp_str (h x hx)
theorem rd_strss {v : Value} {ls : List (List Str)} (x : ListAt (ListAt StrAt) h v ls) : Rd h v (.list (ls.map dStrs)) := rd_list (fun _ _ z => rd_list (fun _ _ => rd_str) z) x

set_option maxHeartbeats 2000000 in
theorem law_9 {L : Addr} {pv qv bv : Value} {m : Str → Option Value} {ps : List Pair} {pl : List Nat} {Q : Flow → Shared → Prop} (o : Aok 400 A) (T : Stat w mg mb R) (S : St R ((L, NsO m) :: led) h)
    (hc : R.IsCell (L + 1) (some pv)) (hps : ListAt PairAt R pv ps) (hlen : ps.length ≤ 67) (hd : R.IsCell (L + 2) (some qv)) (hql : ListAt (IdxAt (ps.length + 1)) R qv pl) (hpl : pl.length ≤ 68) (hpl1 : 1 ≤ pl.length)
    (hord : ∀ k, k + 1 < pl.length → pl.getD k 0 ≤ pl.getD (k + 1) 0 ∧ pl.getD (k + 1) 0 ≤ ps.length) (hm : m "by" = some bv) {ls : List (List Str)} (hb : ListAt (ListAt StrAt) R bv ls) (hls : ls = (List.range (pl.length - 1)).map (sl ps pl)) (hok : ∀ l ∈ ls, ∀ x ∈ l, PyData.strOk x = true)
    (q : ∀ h' tk' R', Sub R R' → St R' ((L, NsO m) :: led) h' → Q .next ⟨h', g, dr, tk', os⟩) :
    wpAny (MD w) A (exec (lst w 9) (lenv w L)) Q E ⟨h, g, dr, tk, os⟩ := by
  refine wpAny_If ?_
  refine wpAny_isTrue_Compare1 ?_
  refine ld_name S (lnames L) (by kernel_rfl) hm ?_
  refine comp_eval (mg := mg) (mb := mb) (rest := (L, NsO m) :: led) (IdxAt (pl.length - 1)) (ListAt StrAt) (fun k => some (sl ps pl k)) (list_mono str_mono) [("places", L + 2), ("pairs", L + 1)] (o.less 340 (by decide)) (by kernel_rfl) (by rfl) (by rfl) ?_
  obtain ⟨qa, qs, rfl, hqL, qal⟩ := ListAt.isList S hql
  have hqn := qal.length
  refine e_range (n := pl.length - 1) (lenv0 L) (by kernel_rfl) T S ?_
  refine wpAny_BinOp ?_
  refine e_len (lenv0 L) (by kernel_rfl) (T.up S.sub) ?_
  refine ld_cell (by kernel_rfl) (by kernel_rfl) (c := L + 2) (by kernel_rfl) (hd.keeps S.sub) ?_
  refine ⟨qa, qs.toArray, h, g, tk, rfl, rfl, hqL, by rw [List.size_toArray]; omega, fun t1 tk1 => ?_⟩
  refine k_int fun t2 tk2 => ?_
  refine o_sub fun t3 tk3 => ?_
  refine ⟨t3, h, tk3, R, by rw [List.size_toArray, hqn]; congr 1; omega, rfl, Sub.refl _, S, by omega, ?_, fun h1 => ?_⟩
  · intro D k v R' m' tail h g tk E' kk T S hv
    obtain ⟨⟨t, rfl⟩, hk⟩ := hv
    have n : Names (compEnvC byScope [("places", L + 2), ("pairs", L + 1)] D (lenv w L)) D := ⟨rfl, (lenv0 (w := w) L).glo, rfl⟩
    have n0 : Env0 (compEnvC byScope [("places", L + 2), ("pairs", L + 1)] D (lenv w L)) := (lenv0 (w := w) L).comp rfl
    refine st_name S n (by kernel_rfl) fun h₁ tk₁ S1 => ?_
    refine wpAny_tests_nil ⟨rfl, ?_⟩
    refine comp_eval (mg := mg) (mb := mb) (rest := (D, NsO (upd m' "k" (.int k t))) :: tail) PairAt StrAt (fun p => some p.2) str_mono [] (o.less 340 (by decide)) (by kernel_rfl) (by rfl) (by rfl) ?_
    have hk1 : k < pl.length := by omega
    have hk2 : k + 1 < pl.length := by omega
    obtain ⟨qa', qs', ea, hqL', qal'⟩ := ListAt.isList S1 (hql.up idx_mono kk)
    cases ea
    obtain ⟨a, xs, rfl, hl, al⟩ := ListAt.isList S1 (hps.up pair_mono kk)
    obtain ⟨u1, eu1, hu1⟩ := qal'.get (List.getElem?_eq_getElem hk1)
    obtain ⟨u2, eu2, hu2⟩ := qal'.get (List.getElem?_eq_getElem hk2)
    obtain ⟨⟨tu1, rfl⟩, _⟩ := hu1
    obtain ⟨⟨tu2, rfl⟩, _⟩ := hu2
    refine wpAny_Subscript_list_slice ?_
    refine ld_cell rfl (by kernel_rfl) (c := L + 1) rfl ((hc.keeps kk).keeps S1.sub) ?_
    rw [evalPart_some]
    refine sub_rule ?_
    refine ld_cell rfl (by kernel_rfl) (c := L + 2) rfl ((hd.keeps kk).keeps S1.sub) ?_
    refine ld_name S1 n (by kernel_rfl) upd_self ?_
    refine item_list hqL' (by omega) (by omega) (x := .int pl[k] tu1) (by simpa using eu1) ?_
    rw [evalPart_some]
    refine sub_rule ?_
    refine ld_cell rfl (by kernel_rfl) (c := L + 2) rfl ((hd.keeps kk).keeps S1.sub) ?_
    refine wpAny_BinOp ?_
    refine ld_name S1 n (by kernel_rfl) upd_self ?_
    refine k_int fun t5 tk5 => ?_
    refine o_add fun t6 tk6 => ?_
    have hkk : ((k : Int) + 1).toNat = k + 1 := by omega
    refine item_list hqL' (by omega) (by omega) (x := .int pl[k + 1] tu2) (by rw [hkk]; simpa using eu2) ?_
    have hal := al.length
    obtain ⟨o1, o2⟩ := hord k hk2
    rw [getD_lt hk1, getD_lt hk2] at o1
    rw [getD_lt hk2] at o2
    refine ⟨a, xs.toArray, some pl[k], some pl[k + 1], rfl, hl, by rw [sizeLine_eq, List.size_toArray]; omega, .int _ _, .int _ _, ?_⟩
    dsimp only
    have S2 := S1.ext (Sub.push h₁ { cls := .type "slice", data := .fields #[.int pl[k] tu1, .int pl[k + 1] tu2, .none] })
    have S3 := S2.push (o := { cls := .type "list", data := .seq (slicePick xs.toArray (some pl[k]) (some pl[k + 1]) none) }) (P := LsO _) (LsO.new _)
    obtain ⟨R4, k4, S4, ⟨lo, el, hlo⟩, _⟩ := S3.freezeHead
    rw [Heap.size_push] at el
    rw [slicePick_run _ _ _ (by rw [List.size_toArray]; omega) o1] at hlo
    have hX : ListAt PairAt R4 (.ref (h₁.objs.size + 1)) ((ps.drop pl[k]).take (pl[k + 1] - pl[k])) :=
      ⟨_, lo, (xs.drop pl[k]).take (pl[k + 1] - pl[k]), rfl, el, hlo, ((al.mono fun _ _ => PairAt.up k4).drop _).take _⟩
    refine src_list pair_mono (T.up k4) S4 hX (by rw [List.length_take, List.length_drop]; omega) (turn_snd n0) fun h5 => ?_
    intro v6 R6 h6 g6 tk6 k6 S6 hv6 hb6
    obtain rfl := hb6.2 rfl
    rw [map_some] at hv6
    refine ⟨h6, tk6, R6, _, rfl, k4.trans k6, S6, ?_⟩
    have e : sl ps pl k = ((ps.drop pl[k]).take (pl[k + 1] - pl[k])).map (·.2) := by
      unfold sl; rw [getD_lt hk1, getD_lt hk2]
    rw [e]; exact hv6
  · intro v2 R2 h2 g2 tk2 k2 S2 hv2 hb2
    obtain rfl := hb2.2 rfl
    rw [map_some, ← hls] at hv2
    have hs : Shp 2 (.list (ls.map dStrs)) := Shp.list fun d hd => by
      obtain ⟨l, hl, rfl⟩ := List.mem_map.mp hd; exact shp_strs (hok l hl)
    refine ne_same (n := 2) (o.less 100 (by decide)) ((rd_strss (hb.up (list_mono str_mono) k2)).up S2.sub) ((rd_strss hv2).up S2.sub) hs (by decide) ?_
    refine wpAny_truthy_bool ?_
    rw [if_neg Bool.false_ne_true]
    exact wpAny_execs_nil (q h2 tk2 R2 k2 S2)
end
end Fw

namespace Fw
open PySem PySem.W PySem.W.X PyProof.Rows PySem.Spec PySem.Calls

section
variable {w : World} {mg mb : Str → Option Value} {A : Around} {E : Value → Shared → Prop} {R h : Heap} {g : Array GenState} {dr : Drawn} {tk : Nat} {os : OsState} {env : Env} {led rest : Led} {δ ε : Type}

theorem getItem_tags {a d : Addr} {vs : Array Value} {n : Nat} {k : Value} {Q : Value → Shared → Prop} (X : (KF w).In h) (e1 : h.get? a = some (tagsObj d vs n)) (e2 : h.get? d = some emptyDict)
    (q : wpAny (MD w) A (PySem.call (.builtin "list.__getitem__") [.ref a, k]) Q E ⟨h, g, dr, tk, os⟩) : wpAny (MD w) A (getItem (.ref a) k) Q E ⟨h, g, dr, tk, os⟩ := by
  have L := tags_special (M := MD w) (name := Str.ofString "__getitem__") (id := "list.__getitem__") X e1 e2 (by kernel_rfl)
  unfold getItem sequenceKey
  refine wpAny_holding (wpAny_bind (wpAny_bind ((InstAt.type (tags_inst e1 e2)).here ?_)))
  refine wpAny_bind ((anyM_none X (C := 363) (by kernel_rfl)).here ?_)
  rw [if_pos (show (!false) = true from rfl)]
  refine wpAny_pure ?_
  unfold callSpecial?
  refine wpAny_bind (wpAny_bind (L.at ?_))
  refine wpAny_holding ?_
  rw [slot_list_getitem.bind (.ref a)]
  refine wpAny_bind (wpAny_pure ?_)
  exact wpAny_bind (wpAny_mono q (fun _ _ z => wpAny_pure (wpAny_pure z)) fun _ _ z => z)

theorem sub_tags {value slice : Expr} {pos : Pos} {Q : Value → Shared → Prop}
    (q : wpAny (MD w) A (eval value env) (fun o s₁ => wpAny (MD w) A (eval slice env) (fun i s₂ => ∃ a d vs n h₂ g₂ tk₂, o = .ref a ∧ s₂ = ⟨h₂, g₂, dr, tk₂, os⟩ ∧ (KF w).In h₂ ∧ h₂.get? a = some (tagsObj d vs n) ∧ h₂.get? d = some emptyDict ∧
      wpAny (MD w) A (PySem.call (.builtin "list.__getitem__") [.ref a, i]) Q E ⟨h₂, g₂, dr, tk₂, os⟩) E s₁) E ⟨h, g, dr, tk, os⟩)
    (hs : ∀ o i, subscripted slice false o i = operate [o, i] (getItem o i) := by intro _ _; with_unfolding_all rfl) : wpAny (MD w) A (eval (.Subscript value slice pos) env) Q E ⟨h, g, dr, tk, os⟩ := by
  refine Subscript_ (wpAny_mono q (fun o s₁ h₁ => wpAny_mono h₁ (fun i s₂ h₂ => ?_) fun _ _ z => z) fun _ _ z => z)
  obtain ⟨a, d, vs, n, h₂, g₂, tk₂, rfl, rfl, X, e1, e2, z⟩ := h₂
  have L := tags_special (M := MD w) (name := Str.ofString "__getitem__") (id := "list.__getitem__") X e1 e2 (by kernel_rfl)
  unfold subscriptTail getitemInPython
  refine wpAny_bind (wpAny_bind (L.at (wpAny_pure ?_)))
  refine wpAny_bind ?_
  rw [hs]
  exact wpAny_operating (wpAny_mono (getItem_tags X e1 e2 z) (fun r s₃ h₃ => wpAny_bind (wpAny_letTemporaryGo (wpAny_pure h₃))) fun _ _ x => x)

theorem get0_tags {a d : Addr} {v : Value} {vs : List Value} {n : Nat} {t : Tok} {Q : Value → Shared → Prop} (o : Aok 100 A) (X : (KF w).In h) (e1 : h.get? a = some (tagsObj d (v :: vs).toArray n)) (q : ∀ h' tk', Sub h h' → Q v ⟨h', g, dr, tk', os⟩) :
    wpAny (MD w) A (PySem.call (.builtin "list.__getitem__") [.ref a, .int 0 t]) Q E ⟨h, g, dr, tk, os⟩ := by
  refine wpAny_mono (wpAny_AB o (tagsGet0_run w h g dr tk os X a d v vs n t e1)) ?_ fun _ _ z => False.elim z
  rintro _ _ ⟨h', tk', rfl, rfl, k⟩
  exact q h' tk' k
theorem get1_tags {a d : Addr} {u v : Value} {vs : List Value} {n : Nat} {t : Tok} {Q : Value → Shared → Prop} (o : Aok 100 A) (X : (KF w).In h) (e1 : h.get? a = some (tagsObj d (u :: v :: vs).toArray n)) (q : ∀ h' tk', Sub h h' → Q v ⟨h', g, dr, tk', os⟩) :
    wpAny (MD w) A (PySem.call (.builtin "list.__getitem__") [.ref a, .int 1 t]) Q E ⟨h, g, dr, tk, os⟩ := by
  refine wpAny_mono (wpAny_AB o (tagsGet1_run w h g dr tk os X a d v u vs n t e1)) ?_ fun _ _ z => False.elim z
  rintro _ _ ⟨h', tk', rfl, rfl, k⟩
  exact q h' tk' k

theorem K_small : ((KF w).all fun p => decide (p.1 ≤ 405)) = true := by kernel_rfl
theorem K_law : ((KF w).lookup 405).isSome = true := by kernel_rfl
theorem mem_of_lk {α : Type} : ∀ {l : List (Addr × α)} {n : Addr} {c : α}, l.lookup n = some c → (n, c) ∈ l
  | [], _, _, e => by cases e
  | (m, x) :: l, n, c, e => by
    rw [List.lookup_cons] at e
    split at e
    · rename_i q; cases e; rw [eq_of_beq q]; exact .head _
    · exact .tail _ (mem_of_lk e)
theorem size_of_K (X : (KF w).In h) : 405 < h.objs.size := by
  cases q : (KF w).lookup 405 with
  | none => have := K_law (w := w); rw [q] at this; cases this
  | some o => exact Heap.lt_size (X _ _ q)
theorem baseK (X : (KF w).In h) {L : Addr} {m : Str → Option Value} (hL : 405 < L) (n : h.Ns L m) : ∃ B, Fr B L h m ∧ (KF w).In B := by
  have hL' : (405 : Nat) < (L : Nat) := hL
  have get : ∀ a : Nat, a ≤ 405 → (⟨h.objs.extract 0 406, h.life⟩ : Heap).get? a = h.get? a := fun a ha => by
    unfold Heap.get?
    have : (h.objs.extract 0 406)[a]? = h.objs[a]? := by
      rw [Array.getElem?_extract]
      have hz := size_of_K X
      simp; omega
    rw [this]
  have sz : (⟨h.objs.extract 0 406, h.life⟩ : Heap).objs.size ≤ 406 := by simp [Array.size_extract]; omega
  refine ⟨⟨h.objs.extract 0 406, h.life⟩, ⟨n, fun b o e => ?_, Nat.le_trans sz (Nat.succ_le_of_lt hL')⟩, fun a o e => ?_⟩
  · have hb : b < 406 := Nat.lt_of_lt_of_le (Heap.lt_size e) sz
    rw [get b (Nat.le_of_lt_succ hb)] at e; exact e
  · have ha := List.all_eq_true.mp (K_small (w := w)) _ (mem_of_lk e)
    rw [get a (of_decide_eq_true ha)]
    exact X a o e

theorem eq_tag {L a d b : Addr} {m : Str → Option Value} {c : Int} {t1 x t2} {c' : Int} {t1' x' t2' n} {Q : Value → Shared → Prop} (o : Aok 180 A) (T : Stat w mg mb h) (hL : 405 < L) (hn : h.Ns L m) (e1 : h.get? a = some (tagObj d c t1 x t2)) (e2 : h.get? d = some emptyDict)
    (e3 : h.get? b = some { cls := .type "tuple", data := .seq #[.int c' t1', .str x' t2'] n }) (sx : PyData.strOk x = true) (sx' : PyData.strOk x' = true)
    (q : ∀ h' tk', Sub h h' → Q (.bool (decide (c = c' ∧ x = x'))) ⟨h', g, dr, tk', os⟩) : wpAny (MD w) A (compareOp .Eq (.ref a) (.ref b)) Q E ⟨h, g, dr, tk, os⟩ := by
  obtain ⟨B, F, XB⟩ := baseK T.K hL hn
  exact cmp_tag o F XB T e1 e2 e3 sx sx' q

theorem ifBound_slot {a : Addr} {name : Str} {id : String} {args : List Value} {s : Shared} {Q : Option Value → Shared → Prop} (L : Looks (MD w) s.heap (specialOf (.ref a) name) (some (.builtin id))) (hb : bindSpecial (.builtin id) (.ref a) = pure (.builtin id, [.ref a]))
    (q : wpAny (MD w) A (call (.builtin id) (.ref a :: args)) (fun v => Q (some v)) E s) : wpAny (MD w) A (callSpecialIfBound? (.ref a) name args) Q E s := by
  simp only [callSpecialIfBound?, bindSpecialIfBound?]
  refine wpAny_holding (wpAny_bind (wpAny_bind (L.here ?_)))
  refine wpAny_bind (wpAny_askSetting (wpAny_ite ?_))
  have fin : wpAny (MD w) A (call (.builtin id) ([.ref a] ++ args) >>= fun v => pure (some v)) Q E s := wpAny_bind (wpAny_mono q (fun v s' h' => wpAny_pure h') fun _ _ h' => h')
  rw [hb]
  split
  · exact wpAny_bind (wpAny_pure (wpAny_pure (by exact fin)))
  · exact wpAny_tryCatch (wpAny_bind (wpAny_pure (wpAny_pure (by exact fin))))

/-- `!=`, which the class takes from object -/
theorem ne_tag {a d b : Addr} {c : Int} {t1 x t2} {c' : Int} {t1' x' t2' n} {Q : Value → Shared → Prop} (o : Aok 200 A) (T : Stat w mg mb h) (e1 : h.get? a = some (tagObj d c t1 x t2)) (e2 : h.get? d = some emptyDict)
    (e3 : h.get? b = some { cls := .type "tuple", data := .seq #[.int c' t1', .str x' t2'] n }) (sx : PyData.strOk x = true) (sx' : PyData.strOk x' = true)
    (q : ∀ h' tk', Sub h h' → Q (.bool (!decide (c = c' ∧ x = x'))) ⟨h', g, dr, tk', os⟩) : wpAny (MD w) A (compareOp .NotEq (.ref a) (.ref b)) Q E ⟨h, g, dr, tk, os⟩ := by
  have X := T.K
  have I := tag_inst e1 e2
  have o1 : Aok 180 A.in1 := o.in1
  have hu : A.units < cLine := by have := o.un; show A.units < 9900; omega
  have hu1 : A.in1.units < cLine := by have := o1.un; show A.in1.units < 9900; omega
  have Lne : Looks (MD w) h (specialOf (.ref a) (cmpInfo .NotEq).2.1) (some (.builtin "object.__ne__")) := I.type.andThen (looks_findIn X (by kernel_rfl))
  have body : wpAny (MD w) A (call (.builtin "object.__ne__") [.ref a, .ref b]) (fun v s' => v ≠ .notImplemented ∧ Q v s') E ⟨h, g, dr, tk, os⟩ := by
    refine wpAny_call (codeAny_call_builtin (by decide +kernel) F.entry_object_ne (check_sub (owner := "object") (n := "__ne__") (.inr (by decide +kernel)) (by decide +kernel) (I.type.andThen (looks_subIn X (by kernel_rfl))) (F.args_object_ne_2 _ _) ?_))
    unfold Builtin.«object.__ne__»
    refine wpAny_bind (wpAny_of_eq (a := (.ref a, [.ref b])) (by rfl) ?_)
    refine wpAny_bind (wpAny_cRoomFor hu1 ?_)
    refine wpAny_bind (ifBound_K (f := 124) X I (by kernel_rfl) (by kernel_rfl) ?_)
    refine tag_eq (o1.less 150 (by decide)) T e1 e2 e3 sx sx' fun h' tk' k => ?_
    refine wpAny_bind (wpAny_truthy_bool ?_)
    exact wpAny_pure ⟨(fun z => nomatch z), q h' tk' k⟩
  show wpAny _ _ (richCompare .NotEq (.ref a) (.ref b)) _ _ _
  have one : wpAny (MD w) A (tryCompare (.ref a) (cmpInfo .NotEq).2.1 (.ref b)) (fun r s' => ∃ v, r = some v ∧ Q v s') E ⟨h, g, dr, tk, os⟩ := by
    unfold tryCompare
    refine wpAny_bind (ifBound_slot Lne (F.slot_object_ne.bind _) (wpAny_mono body (fun v s' z => ?_) fun _ _ z => z))
    obtain ⟨hv, hq⟩ := z
    cases v <;> first | exact absurd rfl hv | exact wpAny_pure ⟨_, rfl, hq⟩
  unfold richCompare
  simp only [oneThing_ref]
  refine wpAny_holding (wpAny_bind (wpAny_cRoomFor hu ?_))
  have hb : Looks (MD w) h (typeOf (.ref b)) (.type "tuple") := (Looks.ld e3).andThen .now
  refine wpAny_bind (I.type.here (wpAny_bind (hb.here ?_)))
  rw [if_pos (by rfl)]
  refine wpAny_bind ((looks_subIn (r := false) X (by kernel_rfl)).here ?_)
  simp only [Bool.false_eq_true, if_false]
  refine wpAny_bind (wpAny_mono one (fun r s' z => ?_) fun _ _ e => e)
  obtain ⟨v, rfl, hq⟩ := z
  exact wpAny_pure hq

/-- a group's head, compared with a pair: `G[0] == (c, x)` -/
def isHd (gp : List Pair) (x : Str) : Bool := match gp with
  | [] => false
  | p :: _ => decide (p = (0, x))
end
end Fw

namespace Fw
open PySem PySem.W PySem.W.X PyProof.Rows PySem.Spec PySem.Calls

def insB (sec : List (List Pair)) : Bool := match sec with
  | [] => false
  | s :: _ => isHd s "SECTION"
noncomputable def dst (w : World) (k : Nat) : Stmt := ((stmtsOf (fnAt w 383).body).drop k).headD default
def defB : Stmt → List Stmt
  | .FunctionDef _ _ b .. => b
  | _ => []
def secScope : Scope := { kind := .function, names := [("section", .free), ("len", .globalImplicit)], isGenerator := false, isCoroutine := false }
def noPar : Arguments := { posonlyargs := [], args := [], vararg := none, kwonlyargs := [], kw_defaults := [], kwarg := none, defaults := [] }

section
variable {w : World} {mg mb : Str → Option Value} {A : Around} {E : Value → Shared → Prop} {R h : Heap} {g : Array GenState} {dr : Drawn} {tk : Nat} {os : OsState} {env : Env} {led rest : Led} {δ ε : Type}

theorem dec_pair {p : Pair} {c : Int} {x : Str} : decide (p.1 = c ∧ p.2 = x) = decide (p = (c, x)) := by
  obtain ⟨a, b⟩ := p
  simp [Prod.mk.injEq]
theorem Aok.room {n : Nat} (o : Aok n A) : A.depth < recursionLimit := by have := o.dep; unfold recursionLimit; omega

/-- `section[0][0]`, in the closure: the head of the section under way -/
theorem e_secHead {c sl : Addr} {xs : Array Value} {sec : List (List Pair)} {p : Pair} {ps : List Pair} {p1 p2 p3 p4 p5 : Pos} {k1 k2 : Nat} {Q : Value → Shared → Prop} (o : Aok 100 A) (T : Stat w mg mb R) (S : St R ((c, CeO (some (.ref sl))) :: (sl, LsO xs) :: led) h)
    (hk : env.scope.kind = .function) (hx : env.kindOf "section" = some .free) (hc : env.cells.lookup ("section" : Str) = some c) (hsec : All2 (TagsAt R) xs.toList ((p :: ps) :: sec))
    (q : ∀ a d t1 t2 h' tk', Sub h h' → R.get? a = some (tagObj d p.1 t1 p.2 t2) → R.get? d = some emptyDict → Q (.ref a) ⟨h', g, dr, tk', os⟩) :
    wpAny (MD w) A (eval (.Subscript (.Subscript (.Name "section" p1) (.Constant (.int 0) k1 p2) p3) (.Constant (.int 0) k2 p4) p5) env) Q E ⟨h, g, dr, tk, os⟩ := by
  refine sub_tags ?_
  refine sub_rule ?_
  refine ld_free hk hx hc S.head ?_
  refine k_int fun t3 tk3 => ?_
  obtain ⟨v, hv0, hv⟩ : ∃ v, xs.toList[0]? = some v ∧ TagsAt R v (p :: ps) := hsec.get (i := 0) rfl
  obtain ⟨a, d, vs, n, rfl, e1, e2, al, _⟩ := hv
  refine item_list (LsO.isList S.f1.head) (by omega) (by omega) (x := .ref a) (by simpa using hv0) ?_
  refine k_int fun t4 tk4 => ?_
  cases al with
  | cons ht _ =>
    obtain ⟨ta, td, t1, t2, rfl, et1, et2⟩ := ht
    refine ⟨a, d, _, n, h, g, tk4, rfl, rfl, KIn.up T.K S.sub, S.sub _ _ e1, S.sub _ _ e2, ?_⟩
    refine get0_tags (o.less 100 (by decide)) (KIn.up T.K S.sub) (S.sub _ _ e1) fun h' tk' k => ?_
    exact q ta td t1 t2 h' tk' k et1 et2

set_option maxHeartbeats 1000000 in
theorem clos_in {f c sl : Addr} {xs : Array Value} {sec : List (List Pair)} {qual : Str} {doc pm ctv : Value} {c' : Addr} {Q : Value → Shared → Prop} (o : Aok 300 A) (T : Stat w mg mb R) (S : St R ((c, CeO (some (.ref sl))) :: (sl, LsO xs) :: led) h)
    (hf : R.get? f = some (fnMade "inside_section" qual noPar (defB (dst w 0)) secScope [("section", c)] doc pm c' ctv)) (hrec : R.CodeRec (.ref c') qual)
    (hsec : All2 (TagsAt R) xs.toList sec) (hne : ∀ gp ∈ sec, gp ≠ []) (hok : OkG sec) (hlen : sec.length ≤ 1000)
    (q : ∀ h' tk' R', Sub R R' → St R' ((c, CeO (some (.ref sl))) :: (sl, LsO xs) :: led) h' → Q (.bool (insB sec)) ⟨h', g, dr, tk', os⟩) : wpAny (MD w) A (PySem.call (.ref f) []) Q E ⟨h, g, dr, tk, os⟩ := by
  have hL : 405 < h.objs.size := size_of_K (KIn.up T.K S.sub)
  refine wpAny_call ?_
  refine codeAny_call_def (body := defB (dst w 0)) (binds := []) o.room (S.sub _ _ hf) rfl (T.lim.keeps S.sub) (hrec.keeps S.sub) rfl (.of_eq (by rfl)) (not_cell_of (l := secScope.names) (by decide)) (fun x hx => nomatch hx) (fun h₀ hns k => ?_)
  have hnone : h.get? h.objs.size = none := by
    cases q : h.get? h.objs.size with
    | none => rfl
    | some o => exact absurd (Heap.lt_size q) (Nat.lt_irrefl _)
  obtain ⟨fo, efo, qfo⟩ := NsO.of hns
  have S1 := (S.addNew (P := NsO _) k efo hnone qfo).f2.f2
  have o1 : Aok 280 (A.deeper (callEnv (fnX "inside_section" qual noPar (defB (dst w 0)) secScope [("section", c)] .none .none doc pm none (.ref c') ctv) h.objs.size f)) := o.deeper _
  refine wpAny_execs_cons ?_
  refine wpAny_If ?_
  refine wpAny_isTrue_value ?_
  have e0 : Env0 (callEnv (fnX "inside_section" qual noPar (defB (dst w 0)) secScope [("section", c)] .none .none doc pm none (.ref c') ctv) h.objs.size f) := ⟨rfl, rfl, rfl⟩
  refine e_len e0 rfl (T.up S1.sub) ?_
  refine ld_free rfl rfl rfl S1.head ?_
  have hxl := hsec.length
  rw [Array.length_toList] at hxl
  refine ⟨sl, xs, h₀, g, _, rfl, rfl, LsO.isList S1.f1.head, by omega, fun t1 tk1 => ?_⟩
  refine PyProof.Rows.truthy_int ?_
  cases sec with
  | nil =>
    rw [hxl]
    rw [if_neg (by decide)]
    refine wpAny_execs_nil ?_
    refine wpAny_execs_cons ?_
    refine wpAny_Return_some ?_
    refine Constant_bool ?_
    exact q h₀ tk1 R (Sub.refl _) S1.f2.tail
  | cons gp sec =>
    rw [if_pos (by rw [hxl]; simp; omega)]
    cases gp with
    | nil => exact absurd rfl (hne _ (.head _))
    | cons p ps =>
      refine wpAny_execs_cons ?_
      refine wpAny_Return_some ?_
      refine wpAny_Compare1 ?_
      refine e_secHead (o1.less 100 (by decide)) T S1 rfl rfl rfl hsec fun a d t2 t3 h2 tk2 k2 ea ed => ?_
      have S2 := S1.ext k2
      refine e_tuple ?_
      refine spl_cons ?_
      refine k_int fun t4 tk4 => ?_
      refine spl_cons ?_
      refine k_str fun t5 tk5 => ?_
      refine spl_nil ⟨by show 2 ≤ 1000; omega, h2, g, tk5, R, _, rfl, S2, fun b h6 R6 k6 S6 e6 => ?_⟩
      refine eq_tag (o1.less 180 (by decide)) ((T.up k6).up S6.sub) hL (NsO.ns S6.f2.head) (S6.sub _ _ (k6 _ _ ea)) (S6.sub _ _ (k6 _ _ ed)) (S6.sub _ _ e6) (hok _ (.head _) _ (.head _)) (by decide +kernel) fun h7 tk7 k7 => ?_
      have he : insB ((p :: ps) :: sec) = decide (p.1 = 0 ∧ p.2 = ("SECTION" : Str)) := dec_pair.symm
      rw [← he]
      exact q h7 tk7 R6 k6 (S6.ext k7).f2.tail
set_option maxHeartbeats 1000000 in
theorem clos_out {f c sl : Addr} {xs : Array Value} {sec : List (List Pair)} {qual : Str} {doc pm ctv : Value} {c' : Addr} {Q : Value → Shared → Prop} (o : Aok 300 A) (T : Stat w mg mb R) (S : St R ((c, CeO (some (.ref sl))) :: (sl, LsO xs) :: led) h)
    (hf : R.get? f = some (fnMade "outside_section" qual noPar (defB (dst w 1)) secScope [("section", c)] doc pm c' ctv)) (hrec : R.CodeRec (.ref c') qual)
    (hsec : All2 (TagsAt R) xs.toList sec) (hne : ∀ gp ∈ sec, gp ≠ []) (hok : OkG sec) (hlen : sec.length ≤ 1000)
    (q : ∀ h' tk' R', Sub R R' → St R' ((c, CeO (some (.ref sl))) :: (sl, LsO xs) :: led) h' → Q (.bool (!insB sec)) ⟨h', g, dr, tk', os⟩) : wpAny (MD w) A (PySem.call (.ref f) []) Q E ⟨h, g, dr, tk, os⟩ := by
  have hL : 405 < h.objs.size := size_of_K (KIn.up T.K S.sub)
  refine wpAny_call ?_
  refine codeAny_call_def (body := defB (dst w 1)) (binds := []) o.room (S.sub _ _ hf) rfl (T.lim.keeps S.sub) (hrec.keeps S.sub) rfl (.of_eq (by rfl)) (not_cell_of (l := secScope.names) (by decide)) (fun x hx => nomatch hx) (fun h₀ hns k => ?_)
  have hnone : h.get? h.objs.size = none := by
    cases q : h.get? h.objs.size with
    | none => rfl
    | some o => exact absurd (Heap.lt_size q) (Nat.lt_irrefl _)
  obtain ⟨fo, efo, qfo⟩ := NsO.of hns
  have S1 := (S.addNew (P := NsO _) k efo hnone qfo).f2.f2
  have o1 : Aok 280 (A.deeper (callEnv (fnX "outside_section" qual noPar (defB (dst w 1)) secScope [("section", c)] .none .none doc pm none (.ref c') ctv) h.objs.size f)) := o.deeper _
  refine wpAny_execs_cons ?_
  refine wpAny_If ?_
  refine wpAny_isTrue_value ?_
  have e0 : Env0 (callEnv (fnX "outside_section" qual noPar (defB (dst w 1)) secScope [("section", c)] .none .none doc pm none (.ref c') ctv) h.objs.size f) := ⟨rfl, rfl, rfl⟩
  refine e_len e0 rfl (T.up S1.sub) ?_
  refine ld_free rfl rfl rfl S1.head ?_
  have hxl := hsec.length
  rw [Array.length_toList] at hxl
  refine ⟨sl, xs, h₀, g, _, rfl, rfl, LsO.isList S1.f1.head, by omega, fun t1 tk1 => ?_⟩
  refine PyProof.Rows.truthy_int ?_
  cases sec with
  | nil =>
    rw [hxl]
    rw [if_neg (by decide)]
    refine wpAny_execs_nil ?_
    refine wpAny_execs_cons ?_
    refine wpAny_Return_some ?_
    refine Constant_bool ?_
    exact q h₀ tk1 R (Sub.refl _) S1.f2.tail
  | cons gp sec =>
    rw [if_pos (by rw [hxl]; simp; omega)]
    cases gp with
    | nil => exact absurd rfl (hne _ (.head _))
    | cons p ps =>
      refine wpAny_execs_cons ?_
      refine wpAny_Return_some ?_
      refine wpAny_Compare1 ?_
      refine e_secHead (o1.less 100 (by decide)) T S1 rfl rfl rfl hsec fun a d t2 t3 h2 tk2 k2 ea ed => ?_
      have S2 := S1.ext k2
      refine e_tuple ?_
      refine spl_cons ?_
      refine k_int fun t4 tk4 => ?_
      refine spl_cons ?_
      refine k_str fun t5 tk5 => ?_
      refine spl_nil ⟨by show 2 ≤ 1000; omega, h2, g, tk5, R, _, rfl, S2, fun b h6 R6 k6 S6 e6 => ?_⟩
      refine ne_tag (o1.less 200 (by decide)) ((T.up k6).up S6.sub) (S6.sub _ _ (k6 _ _ ea)) (S6.sub _ _ (k6 _ _ ed)) (S6.sub _ _ e6) (hok _ (.head _) _ (.head _)) (by decide +kernel) fun h7 tk7 k7 => ?_
      have he : insB ((p :: ps) :: sec) = decide (p.1 = 0 ∧ p.2 = ("SECTION" : Str)) := dec_pair.symm
      rw [← he]
      exact q h7 tk7 R6 k6 (S6.ext k7).f2.tail
end
end Fw

namespace Fw
open PySem PySem.W PySem.W.X PyProof.Rows PySem.Spec PySem.Calls

section
variable {w : World} {mg mb : Str → Option Value} {A : Around} {E : Value → Shared → Prop} {R h : Heap} {g : Array GenState} {dr : Drawn} {tk : Nat} {os : OsState} {env : Env} {led rest : Led} {δ ε : Type}

/-- a call of a text function, its frame and its cells in the ledger -/
theorem callKB {n : Nat} {f : Addr} {body : List Stmt} {vals : List Value} {binds : List (Str × Value)} {Q : Value → Shared → Prop}
    (a : Aok (n + 20) A) (T : Stat w mg mb h) (hf : isFnO ((KF w).lookup f) = true) (hcd : codeIn (KF w) (fnAt w f).code (fnAt w f).qualname = true)
    (hbody : (fnAt w f).body = .stmts body) (hbind : BindsTo ⟨h, g, dr, tk, os⟩ (fnAt w f) ⟨vals, []⟩ binds) (hclo : (fnAt w f).closure = [])
    (hkind : (binds.all fun x => (fnAt w f).scope.names.lookup x.1 == some .local || ((fnAt w f).scope.names.lookup x.1 == some .cell && ((cellsFrom (h.objs.size + 1) (fnAt w f).scope.names []).lookup x.1).isSome)) = true)
    (hco : (fnAt w f).scope.isCoroutine = false) (hgen : (fnAt w f).scope.isGenerator = false) (hk : (fnAt w f).scope.kind = .function)
    (hb : ∀ h₁ tk₁ L, h.objs.size ≤ L → Sub h h₁ → h₁.Ns L (bindL (envAt w f L).kindOf binds fun _ => none) → h.get? L = none →
      (∀ n c, (envAt w f L).cells.lookup n = some c → h₁.IsCell c (bindC (envAt w f L).kindOf binds (fun _ => none) n) ∧ h.get? c = none) → Aok n (A.deeper (envAt w f L)) →
      wpAny (MD w) (A.deeper (envAt w f L)) (execs body (envAt w f L)) (fun f s' => Q (match f with | .ret v => v | _ => .none) s')
        (fun e s' => wpAny (MD w) (A.deeper (envAt w f L)) (leaving (envAt w f L) e) (fun _ s'' => E e s'') (fun e' s'' => E e' s'') s') ⟨h₁, g, dr, tk₁, os⟩) :
    wpAny (MD w) A (PySem.call (.ref f) vals) Q E ⟨h, g, dr, tk, os⟩ := by
  obtain ⟨o, ho, hd⟩ := fn_at T.K hf
  refine wpAny_call ?_
  refine codeAny_call_function (body := body) (by have := a.dep; show A.depth < recursionLimit; unfold recursionLimit; omega) ho hd hco hgen hbody (codeRec_of T.K hcd) ?_
  refine hbind _ _ _ _ ?_
  rw [hclo]
  refine wpAny_newFunctionEnv_cells hk (kinds_of hkind) fun env he s' I => ?_
  subst he
  obtain ⟨⟨⟨h₁, tk₁, rfl⟩, hns, hkeep, hfr⟩, hcell, hap, hab⟩ := I
  refine ⟨T.lim.keeps hkeep, codeAny_func ?_⟩
  have none_of : ∀ b, h.objs.size ≤ b → h.get? b = none := fun b hb => by
    cases q : h.get? b with
    | none => rfl
    | some o => exact absurd (Heap.lt_size q) (Nat.not_lt.mpr hb)
  exact hb h₁ tk₁ h.objs.size (Nat.le_refl _) hkeep hns (none_of _ (Nat.le_refl _)) (fun n c e => ⟨hcell n c e, none_of _ (Nat.le_of_lt (hab n c (lookup_mem e)))⟩) (a.deeper _)

noncomputable abbrev denv (w : World) (L : Addr) : Env := envAt w 383 L
theorem dnames (L : Addr) : Names (denv w L) L := ⟨rfl, by kernel_rfl, by kernel_rfl⟩
theorem denv0 (L : Addr) : Env0 (denv w L) := ⟨by kernel_rfl, by kernel_rfl, by kernel_rfl⟩

def TabO (ps : Array Value) (o : Obj) : Prop := o = tabObj ps
def fdPos : Stmt → Pos
  | .FunctionDef _ _ _ _ _ _ _ _ _ p => p
  | _ => default
noncomputable def qIn (w : World) : Str := qualnameIn (denv w 0) "inside_section" "inside_section"
noncomputable def qOut (w : World) : Str := qualnameIn (denv w 0) "outside_section" "outside_section"
/-- what stands in the table of the function's codes -/
def Tab2 (w : World) (R : Heap) (ps : Array Value) : Prop :=
  ps = #[] ∨ ∃ c1 c2, ps = #[rawInt (fdPos (dst w 0)).line, rawInt (fdPos (dst w 0)).col, .ref c1, rawInt (fdPos (dst w 1)).line, rawInt (fdPos (dst w 1)).col, .ref c2] ∧ R.CodeRec (.ref c1) (qIn w) ∧ R.CodeRec (.ref c2) (qOut w)
theorem Tab2.up {R R' : Heap} (k : Sub R R') {ps : Array Value} (x : Tab2 w R ps) : Tab2 w R' ps := by
  rcases x with x | ⟨c1, c2, e, a, b⟩
  · exact .inl x
  · exact .inr ⟨c1, c2, e, a.keeps k, b.keeps k⟩

/-- the function's own `def`, its code new -/
theorem def_new {L : Addr} {ps : Array Value} {m : Str → Option Value} {nm : Str} {params : Arguments} {body : List Stmt} {scope : Scope} {pos : Pos} {clos : List (Str × Addr)} {Q : Flow → Shared → Prop} (T : Stat w mg mb R) (S : St R ((378, TabO ps) :: (L, NsO m) :: led) h)
    (ht : TriplesOk ps.toList) (hnf : codeAmong pos ps.toList = none) (hcl : closureFor scope (denv w L) = pure clos) (hloc : (denv w L).kindOf nm = some .local)
    (hd0 : params.defaults = []) (hk0 : params.kw_defaults = []) (ha : annTrees params none (denv w L) = [])
    (q : ∀ f c' ctv doc h' tk' R', Sub R R' → St R' ((378, TabO (ps ++ #[rawInt pos.line, rawInt pos.col, .ref c'])) :: (L, NsO (upd m nm (.ref f))) :: led) h' →
      R'.get? f = some (fnMade nm (qualnameIn (denv w L) nm nm) params body scope clos doc ((mg "__name__").getD .none) c' ctv) → R'.CodeRec (.ref c') (qualnameIn (denv w L) nm nm) → Q .next ⟨h', g, dr, tk', os⟩) :
    wpAny (MD w) A (exec (.FunctionDef nm params body [] none [] scope none nm pos) (denv w L)) Q E ⟨h, g, dr, tk, os⟩ := by
  refine nestDef_K hd0 hk0 ha ?_
  obtain ⟨_, e378, rfl⟩ := S.head
  have hg : h.Ns mainGlobals mg := T.g.keeps S.sub
  have C : CodeHd h 382 378 := codeHd_of_K (KIn.up T.K S.sub) (by kernel_rfl)
  have hbm : h.BuiltinsAt mg 378 := by
    obtain ⟨bm, ob, b1, b2, b3, b4, b5, b6⟩ := T.bm
    refine ⟨bm, ob, b1, b2, fun q => ?_, fun q => ?_, S.sub _ _ b3, b4, b5, b6⟩
    · obtain ⟨o, es, ep, e, hd, _⟩ := T.g
      rw [q, e] at b3; cases b3; rw [hd] at b6; cases b6
    · rw [q, S.off (378, TabO ps) (.head _)] at b3; cases b3
  refine makeFunction_K (mg := mg) hcl (denv0 L).glo hg (c := 382) (by kernel_rfl) C e378 ht hnf (by decide) hbm fun c' ctv doc h' tk' hx hge hlt hrec htb => ?_
  have S1 := S.ch (P' := TabO (ps ++ #[rawInt pos.line, rawInt pos.col, .ref c'])) hx ⟨_, htb, rfl⟩
  have S2 := (S1.push (o := fnMade nm (qualnameIn (denv w L) nm nm) params body scope clos doc ((mg "__name__").getD .none) c' ctv) (P := (· = fnMade nm (qualnameIn (denv w L) nm nm) params body scope clos doc ((mg "__name__").getD .none) c' ctv)) rfl).f2
  have hcn : h.get? c' = none := by
    cases q : h.get? c' with
    | none => rfl
    | some o => exact absurd (Heap.lt_size q) (Nat.not_lt.mpr hge)
  obtain ⟨c2, oc, vs, t, e2, hoc, hdc, hv⟩ := hrec
  cases e2
  refine st_local S2 rfl hloc (fun h₃ tk₃ S3 hs₃ => ?_) (dnames L).hp
  have hnl := S.not_led_new (h' := h) hcn
  have hcL : c' ≠ L := fun z => hnl (by rw [z]; simp)
  have hc3 : h₃.get? c' = some oc := hs₃.extBut _ _ hcL (Heap.get?_push_of_some _ hoc)
  obtain ⟨R', kR, S4, ⟨of, ef, rfl⟩, fr⟩ := S3.f1.freezeHead
  have hnl2 : c' ∉ List.map (·.1) ((L, NsO (upd m nm (.ref h'.objs.size))) :: (378, TabO (ps ++ #[rawInt pos.line, rawInt pos.col, .ref c'])) :: led) := fun z => hnl (by
    simp only [List.map_cons, List.mem_cons] at z ⊢
    rcases z with z | z | z
    · exact .inr (.inl z)
    · exact .inl z
    · exact .inr (.inr z))
  exact q h'.objs.size c' ctv doc h₃ tk₃ R' kR S4.f1 ef ⟨c', oc, vs, t, rfl, fr _ _ hc3 hnl2, hdc, hv⟩

/-- the function's own `def`, its code at hand -/
theorem def_hit {L : Addr} {ps : Array Value} {m : Str → Option Value} {nm : Str} {params : Arguments} {body : List Stmt} {scope : Scope} {pos : Pos} {clos : List (Str × Addr)} {c' : Addr} {Q : Flow → Shared → Prop} (T : Stat w mg mb R) (S : St R ((378, TabO ps) :: (L, NsO m) :: led) h)
    (ht : TriplesOk ps.toList) (hf : codeAmong pos ps.toList = some (.ref c')) (hcl : closureFor scope (denv w L) = pure clos) (hloc : (denv w L).kindOf nm = some .local)
    (hd0 : params.defaults = []) (hk0 : params.kw_defaults = []) (ha : annTrees params none (denv w L) = [])
    (q : ∀ f ctv doc h' tk' R', Sub R R' → St R' ((378, TabO ps) :: (L, NsO (upd m nm (.ref f))) :: led) h' →
      R'.get? f = some (fnMade nm (qualnameIn (denv w L) nm nm) params body scope clos doc ((mg "__name__").getD .none) c' ctv) → Q .next ⟨h', g, dr, tk', os⟩) :
    wpAny (MD w) A (exec (.FunctionDef nm params body [] none [] scope none nm pos) (denv w L)) Q E ⟨h, g, dr, tk, os⟩ := by
  refine nestDef_K hd0 hk0 ha ?_
  obtain ⟨_, e378, rfl⟩ := S.head
  have hg : h.Ns mainGlobals mg := T.g.keeps S.sub
  have C : CodeHd h 382 378 := codeHd_of_K (KIn.up T.K S.sub) (by kernel_rfl)
  have hbm : h.BuiltinsAt mg 378 := by
    obtain ⟨bm, ob, b1, b2, b3, b4, b5, b6⟩ := T.bm
    refine ⟨bm, ob, b1, b2, fun q => ?_, fun q => ?_, S.sub _ _ b3, b4, b5, b6⟩
    · obtain ⟨o, es, ep, e, hd, _⟩ := T.g
      rw [q, e] at b3; cases b3; rw [hd] at b6; cases b6
    · rw [q, S.off (378, TabO ps) (.head _)] at b3; cases b3
  refine makeFunction_hit (mg := mg) hcl (denv0 L).glo hg (c := 382) (by kernel_rfl) C e378 ht hf hbm fun ctv doc h' tk' hx _ => ?_
  have S1 := S.ext (h' := h') hx
  have S2 := (S1.push (o := fnMade nm (qualnameIn (denv w L) nm nm) params body scope clos doc ((mg "__name__").getD .none) c' ctv) (P := (· = fnMade nm (qualnameIn (denv w L) nm nm) params body scope clos doc ((mg "__name__").getD .none) c' ctv)) rfl).f2
  refine st_local S2 rfl hloc (fun h₃ tk₃ S3 hs₃ => ?_) (dnames L).hp
  obtain ⟨R', kR, S4, ⟨of, ef, rfl⟩, fr⟩ := S3.f1.freezeHead
  exact q h'.objs.size ctv doc h₃ tk₃ R' kR S4.f1 ef

def FnIn (w : World) (R : Heap) (f c : Addr) : Prop := ∃ doc pm c' ctv, R.get? f = some (fnMade "inside_section" (qIn w) noPar (defB (dst w 0)) secScope [("section", c)] doc pm c' ctv) ∧ R.CodeRec (.ref c') (qIn w)
def FnOut (w : World) (R : Heap) (f c : Addr) : Prop := ∃ doc pm c' ctv, R.get? f = some (fnMade "outside_section" (qOut w) noPar (defB (dst w 1)) secScope [("section", c)] doc pm c' ctv) ∧ R.CodeRec (.ref c') (qOut w)
theorem FnIn.up {R R' : Heap} (k : Sub R R') {f c} (x : FnIn w R f c) : FnIn w R' f c := let ⟨a, b, c', d, e, r⟩ := x; ⟨a, b, c', d, k _ _ e, r.keeps k⟩
theorem FnOut.up {R R' : Heap} (k : Sub R R') {f c} (x : FnOut w R f c) : FnOut w R' f c := let ⟨a, b, c', d, e, r⟩ := x; ⟨a, b, c', d, k _ _ e, r.keeps k⟩

set_option maxHeartbeats 2000000 in
/-- both `def`s -/
theorem load_01 {L : Addr} {ps : Array Value} {m : Str → Option Value} {Q : Flow → Shared → Prop} (T : Stat w mg mb R) (S : St R ((378, TabO ps) :: (L, NsO m) :: led) h) (ht : Tab2 w R ps) {rest : List Stmt}
    (q : ∀ f1 f2 ps' h' tk' R', Sub R R' → Tab2 w R' ps' → St R' ((378, TabO ps') :: (L, NsO (upd (upd m "inside_section" (.ref f1)) "outside_section" (.ref f2))) :: led) h' → FnIn w R' f1 (L + 1) → FnOut w R' f2 (L + 1) →
      wpAny (MD w) A (execs rest (denv w L)) Q E ⟨h', g, dr, tk', os⟩) :
    wpAny (MD w) A (execs (dst w 0 :: dst w 1 :: rest) (denv w L)) Q E ⟨h, g, dr, tk, os⟩ := by
  have q1 : qualnameIn (denv w L) "inside_section" "inside_section" = qIn w := by kernel_rfl
  have q2 : qualnameIn (denv w L) "outside_section" "outside_section" = qOut w := by kernel_rfl
  refine wpAny_execs_cons ?_
  rcases ht with rfl | ⟨c1, c2, rfl, r1, r2⟩
  · refine def_new (params := noPar) (scope := secScope) (clos := [("section", L + 1)]) T S trivial rfl (by rfl) (by kernel_rfl) rfl rfl (by rfl) fun f1 c1 ctv1 doc1 h1 tk1 R1 k1 S1 e1 r1 => ?_
    refine wpAny_execs_cons ?_
    refine def_new (params := noPar) (scope := secScope) (clos := [("section", L + 1)]) (T.up k1) S1 trivial (by kernel_rfl) (by rfl) (by kernel_rfl) rfl rfl (by rfl) fun f2 c2 ctv2 doc2 h2 tk2 R2 k2 S2 e2 r2 => ?_
    rw [q1] at e1 r1
    rw [q2] at e2 r2
    refine q f1 f2 _ h2 tk2 R2 (k1.trans k2) (.inr ⟨c1, c2, by kernel_rfl, r1.keeps k2, r2⟩) S2 ⟨doc1, _, c1, ctv1, k2 _ _ e1, r1.keeps k2⟩ ⟨doc2, _, c2, ctv2, e2, r2⟩
  · refine def_hit (params := noPar) (scope := secScope) (clos := [("section", L + 1)]) (c' := c1) T S trivial (by kernel_rfl) (by rfl) (by kernel_rfl) rfl rfl (by rfl) fun f1 ctv1 doc1 h1 tk1 R1 k1 S1 e1 => ?_
    refine wpAny_execs_cons ?_
    refine def_hit (params := noPar) (scope := secScope) (clos := [("section", L + 1)]) (c' := c2) (T.up k1) S1 trivial (by kernel_rfl) (by rfl) (by kernel_rfl) rfl rfl (by rfl) fun f2 ctv2 doc2 h2 tk2 R2 k2 S2 e2 => ?_
    rw [q1] at e1
    rw [q2] at e2
    refine q f1 f2 _ h2 tk2 R2 (k1.trans k2) (.inr ⟨c1, c2, rfl, r1.keeps (k1.trans k2), r2.keeps (k1.trans k2)⟩) S2 ⟨doc1, _, c1, ctv1, k2 _ _ e1, r1.keeps (k1.trans k2)⟩ ⟨doc2, _, c2, ctv2, e2, r2.keeps (k1.trans k2)⟩
end
end Fw

namespace Fw
open PySem PySem.W PySem.W.X PyProof.Rows PySem.Spec PySem.Calls

section
variable {w : World} {mg mb : Str → Option Value} {A : Around} {E : Value → Shared → Prop} {R h : Heap} {g : Array GenState} {dr : Drawn} {tk : Nat} {os : OsState} {env : Env} {led rest : Led} {δ ε : Type}

theorem St.uniq (S : St R led h) {a : Addr} {P Q : Obj → Prop} (hp : (a, P) ∈ led) (hq : (a, Q) ∈ led) : P = Q := by
  have nd := S.nd
  clear S
  induction led with
  | nil => cases hp
  | cons x r ih =>
    rw [List.map_cons, List.nodup_cons] at nd
    rcases List.mem_cons.mp hp with e1 | hp'
    · rcases List.mem_cons.mp hq with e2 | hq'
      · have := e1.trans e2.symm
        injection this
      · exact (nd.1 (List.mem_map.mpr ⟨(a, Q), hq', by rw [← e1]⟩)).elim
    · rcases List.mem_cons.mp hq with e2 | hq'
      · exact (nd.1 (List.mem_map.mpr ⟨(a, P), hp', by rw [← e2]⟩)).elim
      · exact ih hp' hq' nd.2

/-- an exception of the class on its way: all but the frames is as it was -/
structure FlyS (R : Heap) (led : Led) (F : List Addr) (l : List Env) (e : Addr) (h' : Heap) : Prop where
  ex : ∃ h a0, St R led h ∧ (∀ a ∈ F, ∃ m, (a, NsO m) ∈ led) ∧ Heap.FlyingW (hideAll h F) l e (.ref 44) a0 h' ∧ h.UpToSlots h'

theorem fly_st {F : List Addr} {h' : Heap} (S : St R led h) (hF : ∀ a ∈ F, ∃ m, (a, NsO m) ∈ led) (hb : (hideAll h F).StaysIn h') (hu : h.UpToSlots h') : St R led h' := by
  refine ⟨fun b o e => hb b o (hideAll_get _ (S.sub _ _ e) fun z => ?_), fun p hp => ?_, S.off, S.nd⟩
  · obtain ⟨m, hm⟩ := hF b z
    rw [S.off _ hm] at e; cases e
  · obtain ⟨a, P⟩ := p
    obtain ⟨o, e, q⟩ := S.led _ hp
    by_cases hz : a ∈ F
    · obtain ⟨m, hm⟩ := hF a hz
      obtain rfl := S.uniq hp hm
      obtain ⟨es, ep, hd, r⟩ := q
      obtain ⟨sl, hs⟩ := hu a o e fun vs z => by rw [hd] at z; cases z
      exact ⟨_, hs, es, ep, hd, r⟩
    · exact ⟨o, hb a o (hideAll_get _ e hz), q⟩
theorem FlyS.st {F : List Addr} {l : List Env} {e : Addr} {h' : Heap} (x : FlyS R led F l e h') : St R led h' := by
  obtain ⟨h, a0, S, hF, hfl, hu⟩ := x.ex
  exact fly_st S hF hfl.1 hu

theorem note_first {base : Heap} {outer : List Env} {L e : Addr} {oe : Obj} {vs : Array Value} {a0 : Value} {Q : Unit → Shared → Prop} {s : Shared}
    (hfr : A.frames = some (env :: outer)) (hl : s.heap.FunFrames base (env :: outer)) (hf : env.frame = some L)
    (he : s.heap.get? e = some oe) (hkb : base.StaysIn s.heap) (hen : base.get? e = none) (hd : oe.data = .fields vs) (h1 : vs[1]? = some .none) (h0 : vs[0]? = some a0)
    (q : ∀ h', Heap.NotedW base (env :: outer) e oe.cls a0 (rawInt L) s.heap h' → Q () { s with heap := h' }) : wpAny (MD w) A (noteFrame (.ref e) env) Q E s := by
  unfold noteFrame
  simp only [hf]
  refine wpAny_bind (wpAny_field he hd h1 ?_)
  rw [if_neg (by decide)]
  exact wpAny_entryW hfr hl hf he hkb hen hd (Array.getElem?_eq_some_iff.mp h1).1 h0 q

theorem came_back {base : Heap} {l : List Env} {L e : Addr} {cls a0 : Value} {s : Shared} (x : Heap.HeldW base l e cls a0 L s.heap) (hf : env.frame = some L)
    (q : ∀ h', Heap.HeldW base l e cls a0 L h' → s.heap.UpToSlots h' → E (.ref e) { s with heap := h' }) : cameBackBy (MD w) A env E (.ref e) s := by
  obtain ⟨hkb, hen, hl, oe, vs, T, oT, ts, he, hcls, hd, h1, hnT, hTe, hT, hdT, h3⟩ := x
  have hsz3 : 3 < ts.size := (Array.getElem?_eq_some_iff.mp h3).1
  have other : ∀ b, b ≠ T → (s.heap.update T (Obj.mapFields (·.setIfInBounds 3 ((some L).elim Value.none fun f => rawInt f)))).get? b = s.heap.get? b := fun b hb => Heap.get?_update_other _ _ (Ne.symm hb)
  have nr : ∀ b o, s.heap.get? b = some o → (∀ vs, o.data ≠ .fields vs) → b ≠ T := fun b o hb hn z => by
    rw [z, hT] at hb; injection hb with hb; subst hb; exact hn ts hdT
  show wpAny _ _ _ _ _ _
  refine wpAny_bind (wpAny_field he hd h1 ?_)
  rw [if_neg (by simp)]
  rw [hf]
  unfold setFlight
  refine wpAny_bind (wpAny_field he hd h1 ?_)
  rw [if_pos (show (Value.ref T != Value.none) = true from by simp)]
  refine wpAny_setField hT hdT hsz3 (q _ ⟨fun b o hbo => (other b fun z => by rw [z, hnT] at hbo; cases hbo).trans (hkb b o hbo), hen,
    hl.of_keeps fun b o hb hn => ⟨o, (other b (nr b o hb hn)).trans hb, rfl⟩, ?_⟩ fun b o hb hn => ⟨o.slots, (other b (nr b o hb hn)).trans hb⟩)
  exact ⟨oe, vs, T, _, _, (other e (Ne.symm hTe)).trans he, hcls, hd, h1, hnT, hTe, Heap.get?_update_self _ hT (Obj.isFreed_of_fields (Obj.data_mapFields hdT _)), Obj.data_mapFields hdT _, by simp [hsz3]⟩

/-- who stands on the stack: their frames in the ledger -/
def Outer (outer : List Env) (led : Led) : Prop := ∀ env ∈ outer, env.scope.kind ≠ .module ∧ ∃ L m, env.frame = some L ∧ (L, NsO m) ∈ led
theorem Outer.frames {outer : List Env} (S : St R led h) (hO : Outer outer led) {F : List Addr} (hF : ∀ env ∈ outer, ∀ L, env.frame = some L → L ∈ F) : h.FunFrames (hideAll h F) outer := by
  induction outer with
  | nil => trivial
  | cons env r ih =>
    obtain ⟨hk, L, m, hf, hm⟩ := hO env (.head _)
    refine Heap.FunFrames.cons (L := L) (m := m) hk hf ?_ (hideAll_none _ (hF env (.head _) L hf)) (ih (fun x hx => hO x (.tail _ hx)) fun x hx => hF x (.tail _ hx))
    exact NsO.ns (S.led _ hm)

theorem raise_made {msg : Str} {np p cpos pos : Pos} {k : Nat} {Q : Flow → Shared → Prop} (e0 : Env0 env) (hx : env.kindOf "DXFStructureError" = some .globalImplicit) (hh : A.handled = none) (T : Stat w mg mb h)
    (q : ∀ e h' tk' vs, Heap.MadeExcOf h h' e (.ref 44) vs → E (.ref e) ⟨h', g, dr, tk', os⟩) :
    wpAny (MD w) A (exec (.Raise (some (.Call (.Name "DXFStructureError" np) [.Constant (.str msg) k p] [] cpos)) none pos) env) Q E ⟨h, g, dr, tk, os⟩ := by
  obtain ⟨tl, N, nm, qn, bs, hdct, sn, sub, ab, col, dd, k0, k1, k2, k3, k5, mN, hC, hN, hni, TL⟩ := T.own.obj
  refine wpAny_Raise_call_subT (C := 44) (nm := nm) (q := qn) (N := N) (bs := bs) (bm := tl) (hdct := hdct) (sn := sn) (sub := sub) (ab := ab) (col := col) (dd := dd) (k0 := k0) (k1 := k1) (k2 := k2) (k3 := k3) (k5 := k5)
    F.excBase_Exception (mN := mN) (TL.hasType F.excBase_Exception.hasBase) hh rfl hni ?_
  refine ld_global T (v := .ref 44) (by kernel_rfl) ⟨rfl, ?_⟩ e0.glo e0.fn hx
  refine Calls.evalArgs_plain (Calls.spliced_cons ?_)
  refine k_str (k := k) (pos := p) fun t tk1 => ?_
  exact Calls.spliced_nil ⟨rfl, by show 1 ≤ sizeLine; rw [sizeLine_eq]; omega, hC, hN, TL, fun h' e hm => q e h' tk1 _ hm⟩

/-- the exception leaves the function, at once -/
theorem raise_leaves {L : Addr} {m : Str → Option Value} {outer : List Env} {e : Addr} {h' : Heap} {vs : List Value} {Q : Unit → Shared → Prop} (S : St R led h) (hk : env.scope.kind ≠ .module) (hf : env.frame = some L) (hL : (L, NsO m) ∈ led) (hO : Outer outer led) (hfr : A.frames = some (env :: outer))
    (hm : Heap.MadeExcOf h h' e (.ref 44) vs) (q : ∀ h'', FlyS R led (L :: outer.filterMap (·.frame)) outer e h'' → Q () ⟨h'', g, dr, tk, os⟩) : wpAny (MD w) A (leaving env (.ref e)) Q E ⟨h', g, dr, tk, os⟩ := by
  have hF : ∀ a ∈ L :: outer.filterMap (·.frame), ∃ m, (a, NsO m) ∈ led := fun a ha => by
    rcases List.mem_cons.mp ha with rfl | ha
    · exact ⟨m, hL⟩
    · obtain ⟨x, hx, e1⟩ := List.mem_filterMap.mp ha
      obtain ⟨_, L', m', e2, hm'⟩ := hO x hx
      rw [e1] at e2; cases e2
      exact ⟨m', hm'⟩
  have hO' : Outer (env :: outer) led := fun x hx => by
    rcases List.mem_cons.mp hx with rfl | hx
    · exact ⟨hk, L, m, hf, hL⟩
    · exact hO x hx
  have ff : h.FunFrames (hideAll h (L :: outer.filterMap (·.frame))) (env :: outer) := hO'.frames S fun x hx L' hL' => by
    rcases List.mem_cons.mp hx with rfl | hx
    · rw [hf] at hL'; cases hL'; exact .head _
    · exact .tail _ (List.mem_filterMap.mpr ⟨x, hx, hL'⟩)
  have ff' : h'.FunFrames (hideAll h (L :: outer.filterMap (·.frame))) (env :: outer) := ff.of_keeps fun b o e _ => ⟨o, hm.keeps _ _ e, rfl⟩
  have hst : (hideAll h (L :: outer.filterMap (·.frame))).StaysIn h' := fun b o e => hm.keeps _ _ (of_hideAll _ e)
  have hen : (hideAll h (L :: outer.filterMap (·.frame))).get? e = none := by
    cases z : (hideAll h (L :: outer.filterMap (·.frame))).get? e with
    | none => rfl
    | some o => have := of_hideAll _ z; rw [hm.new] at this; cases this
  obtain ⟨t, he, _, _⟩ := hm.there
  refine wpAny_leaving_firstW hfr ff' hf he hst hen rfl rfl rfl fun h'' hl => ?_
  obtain ⟨l1, ⟨_, _, l2⟩, l3, l4⟩ := hl
  exact q h'' ⟨h, .ref t, S, hF, ⟨l1, hen, l2, l3⟩, (Heap.UpToSlots.of_keeps hm.keeps).trans l4⟩

/-- the exception leaves a loop of the function, and the function -/
theorem raise_loop {L : Addr} {m : Str → Option Value} {outer : List Env} {e : Addr} {h' : Heap} {vs : List Value} {E2 : Value → Shared → Prop} (S : St R led h) (hk : env.scope.kind ≠ .module) (hf : env.frame = some L) (hL : (L, NsO m) ∈ led) (hO : Outer outer led) (hfr : A.frames = some (env :: outer))
    (hm : Heap.MadeExcOf h h' e (.ref 44) vs) (q : ∀ h'', FlyS R led (L :: outer.filterMap (·.frame)) outer e h'' → E2 (.ref e) ⟨h'', g, dr, tk, os⟩) :
    notedBy (MD w) A env (fun e s' => cameBackBy (MD w) A env (fun e s' => wpAny (MD w) A (leaving env e) (fun _ s'' => E2 e s'') (fun e' s'' => E2 e' s'') s') e s') (.ref e) ⟨h', g, dr, tk, os⟩ := by
  have hF : ∀ a ∈ L :: outer.filterMap (·.frame), ∃ m, (a, NsO m) ∈ led := fun a ha => by
    rcases List.mem_cons.mp ha with rfl | ha
    · exact ⟨m, hL⟩
    · obtain ⟨x, hx, e1⟩ := List.mem_filterMap.mp ha
      obtain ⟨_, L', m', e2, hm'⟩ := hO x hx
      rw [e1] at e2; cases e2
      exact ⟨m', hm'⟩
  have hO' : Outer (env :: outer) led := fun x hx => by
    rcases List.mem_cons.mp hx with rfl | hx
    · exact ⟨hk, L, m, hf, hL⟩
    · exact hO x hx
  have ff : h.FunFrames (hideAll h (L :: outer.filterMap (·.frame))) (env :: outer) := hO'.frames S fun x hx L' hL' => by
    rcases List.mem_cons.mp hx with rfl | hx
    · rw [hf] at hL'; cases hL'; exact .head _
    · exact .tail _ (List.mem_filterMap.mpr ⟨x, hx, hL'⟩)
  have ff' : h'.FunFrames (hideAll h (L :: outer.filterMap (·.frame))) (env :: outer) := ff.of_keeps fun b o e _ => ⟨o, hm.keeps _ _ e, rfl⟩
  have hst : (hideAll h (L :: outer.filterMap (·.frame))).StaysIn h' := fun b o e => hm.keeps _ _ (of_hideAll _ e)
  have hen : (hideAll h (L :: outer.filterMap (·.frame))).get? e = none := by
    cases z : (hideAll h (L :: outer.filterMap (·.frame))).get? e with
    | none => rfl
    | some o => have := of_hideAll _ z; rw [hm.new] at this; cases this
  obtain ⟨t, he, _, _⟩ := hm.there
  show wpAny _ _ _ _ _ _
  refine note_first hfr ff' hf he hst hen rfl rfl rfl fun h2 hn => ?_
  obtain ⟨n1, n2, n3, n4⟩ := hn
  refine came_back (L := L) ⟨n1, hen, n2, n3⟩ hf fun h3 hh3 hu3 => ?_
  show wpAny _ _ _ _ _ _
  unfold leaving
  refine wpAny_bind (wpAny_noteFrame_againW hf hh3.2.2.2 ?_)
  refine wpAny_landsW hh3 fun h4 hfl hu4 => ?_
  obtain ⟨l1, l2, ⟨_, _, l3⟩, l4⟩ := hfl
  exact q h4 ⟨h, .ref t, S, hF, ⟨l1, l2, l3, l4⟩, (((Heap.UpToSlots.of_keeps hm.keeps).trans n4).trans hu3).trans hu4⟩
end
end Fw

namespace Fw
open PySem PySem.W PySem.W.X PyProof.Rows PySem.Spec PySem.Calls

abbrev Secs := List (Str × List (List Pair))
def put {β : Type} (secs : List (Str × β)) (n : Str) (v : β) : List (Str × β) :=
  if secs.any (fun kv => kv.1 = n) then secs.map (fun kv => if kv.1 = n then (kv.1, v) else kv) else secs ++ [(n, v)]
def secName (sec : List (List Pair)) : Option Str := match sec with
  | (_ :: p :: _) :: _ => if p.1 = 2 then some p.2 else none
  | _ => none
/-- what load_dxf_structure does with the groups -/
def run (lets : Bool) : List (List Pair) → Secs → List (List Pair) → Bool → Option Secs
  | [], secs, sec, e => if insB sec = true then none else if e = false ∧ lets = false then none else some secs
  | g :: gs, secs, sec, e =>
    if isHd g "SECTION" = true then (if insB sec = true then none else run lets gs secs [g] e)
    else if isHd g "ENDSEC" = true then (if insB sec = true then (match secName sec with | some n => run lets gs (put secs n sec) [] e | none => none) else none)
    else if isHd g "EOF" = true then run lets gs secs sec true
    else run lets gs secs (sec ++ [g]) e

theorem run_cons (lets : Bool) (g : List Pair) (gs : List (List Pair)) (secs : Secs) (sec : List (List Pair)) (e : Bool) : run lets (g :: gs) secs sec e =
    if isHd g "SECTION" = true then (if insB sec = true then none else run lets gs secs [g] e)
    else if isHd g "ENDSEC" = true then (if insB sec = true then (match secName sec with | some n => run lets gs (put secs n sec) [] e | none => none) else none)
    else if isHd g "EOF" = true then run lets gs secs sec true
    else run lets gs secs (sec ++ [g]) e := by rw [run]

section
variable {w : World} {mg mb : Str → Option Value} {A : Around} {E : Value → Shared → Prop} {R h : Heap} {g : Array GenState} {dr : Drawn} {tk : Nat} {os : OsState} {env : Env} {led rest : Led} {δ ε : Type}

def DiO (w : World) (kvs : List (Str × Value)) (o : Obj) : Prop := ∃ es ep, o.ExactDict ∧ o.data = .dict es ep ∧ KeysOf (strKind PG w) es ∧ PySem.Pairs (strKind PG w) es.toList kvs ∧ (kvs.map (·.1)).Nodup
theorem DiO.dictOf {d : Addr} {kvs : List (Str × Value)} (x : ∃ o, h.get? d = some o ∧ DiO w kvs o) : h.DictOf (strKind PG w) d kvs := let ⟨o, e, es, ep, r⟩ := x; ⟨o, es, ep, e, r⟩
theorem DiO.of {d : Addr} {kvs : List (Str × Value)} (x : h.DictOf (strKind PG w) d kvs) : ∃ o, h.get? d = some o ∧ DiO w kvs o := let ⟨o, es, ep, e, r⟩ := x; ⟨o, e, es, ep, r⟩
theorem DiO.new : DiO w [] { cls := .type "dict", data := .dict #[] } := ⟨#[], 0, ⟨rfl, rfl, rfl⟩, rfl, (fun e he => by simp at he), .nil, List.Pairwise.nil⟩
theorem stored_put {β : Type} (kvs : List (Str × Value)) (n : Str) (v : Value) : stored kvs n v = put kvs n v := rfl

def SecAt (R : Heap) (kv : Str × Value) (sp : Str × List (List Pair)) : Prop := kv.1 = sp.1 ∧ ListAt TagsAt R kv.2 sp.2
theorem SecAt.up {R R' : Heap} (k : Sub R R') {kv sp} (x : SecAt R kv sp) : SecAt R' kv sp := ⟨x.1, x.2.up tags_mono k⟩
theorem put_all {n : Str} {v : Value} {s : List (List Pair)} (hv : ListAt TagsAt R v s) {kvs : List (Str × Value)} {secs : Secs} (x : All2 (SecAt R) kvs secs) : All2 (SecAt R) (put kvs n v) (put secs n s) := by
  have hany : ∀ {kvs : List (Str × Value)} {secs : Secs}, All2 (SecAt R) kvs secs → kvs.any (fun kv => kv.1 = n) = secs.any (fun kv => kv.1 = n) := by
    intro kvs secs x
    induction x with
    | nil => rfl
    | cons a _ ih => rw [List.any_cons, List.any_cons, ih, a.1]
  have hmap : ∀ {kvs : List (Str × Value)} {secs : Secs}, All2 (SecAt R) kvs secs → All2 (SecAt R) (kvs.map fun kv => if kv.1 = n then (kv.1, v) else kv) (secs.map fun kv => if kv.1 = n then (kv.1, s) else kv) := by
    intro kvs secs x
    induction x with
    | nil => exact .nil
    | cons a _ ih =>
      refine .cons ?_ ih
      dsimp only
      rw [← a.1]
      split
      · exact ⟨rfl, hv⟩
      · exact a
  unfold put
  rw [hany x]
  split
  · exact hmap x
  · exact x.snoc ⟨rfl, hv⟩
theorem put_length {β : Type} (l : List (Str × β)) (n : Str) (v : β) : (put l n v).length ≤ l.length + 1 := by
  unfold put
  split
  · rw [List.length_map]; omega
  · rw [List.length_append]; show l.length + 1 ≤ _; omega

/-- `tag == (0, X)` -/
theorem e_tagIs {L a d : Addr} {m : Str → Option Value} {p : Pair} {ps : List Pair} {t1 t2 : Tok} {x : Str} {p1 p2 p3 p4 p5 : Pos} {k1 k2 : Nat} {x1} {Q : Bool → Shared → Prop} (o : Aok 200 A) (T : Stat w mg mb R) (S : St R ((L, NsO m) :: led) h) (n : Names env L) (hL : 405 < L)
    (hx : env.kindOf "tag" = some .local) (hm : m "tag" = some (.ref a)) (ea : R.get? a = some (tagObj d p.1 t1 p.2 t2)) (ed : R.get? d = some emptyDict) (ok : PyData.strOk p.2 = true) (okx : PyData.strOk x = true)
    (q : ∀ h' tk' R', Sub R R' → St R' ((L, NsO m) :: led) h' → Q (isHd (p :: ps) x) ⟨h', g, dr, tk', os⟩) :
    wpAny (MD w) A (isTrue (.Compare (.Name "tag" p1) [.Eq] [.Tuple [.Constant (.int 0) k1 p2, .Constant (.str x) k2 p3] x1 p4] p5) env (eval (.Compare (.Name "tag" p1) [.Eq] [.Tuple [.Constant (.int 0) k1 p2, .Constant (.str x) k2 p3] x1 p4] p5) env)) Q E ⟨h, g, dr, tk, os⟩ := by
  refine wpAny_isTrue_Compare1 ?_
  refine ld_name S n hx hm ?_
  refine e_pair S fun v h1 tk1 R1 k1 S1 hv => ?_
  obtain ⟨b, t3, t4, nn, rfl, eb⟩ := hv
  refine eq_tag (o.less 180 (by decide)) ((T.up k1).up S1.sub) hL (NsO.ns S1.head) (S1.sub _ _ (k1 _ _ ea)) (S1.sub _ _ (k1 _ _ ed)) (S1.sub _ _ eb) ok okx fun h2 tk2 k2 => ?_
  refine wpAny_truthy_bool ?_
  have he : decide (p.1 = 0 ∧ p.2 = x) = isHd (p :: ps) x := dec_pair
  rw [he]
  exact q h2 tk2 R1 k1 (S1.ext k2)

/-- `inside_section()` -/
theorem e_inside {L c sl f : Addr} {m : Str → Option Value} {xs : Array Value} {sec : List (List Pair)} {p1 p2 : Pos} {Q : Bool → Shared → Prop} (o : Aok 300 A) (T : Stat w mg mb R) (S : St R ((L, NsO m) :: (c, CeO (some (.ref sl))) :: (sl, LsO xs) :: led) h) (n : Names env L)
    (hx : env.kindOf "inside_section" = some .local) (hm : m "inside_section" = some (.ref f)) (hf : FnIn w R f c) (hsec : All2 (TagsAt R) xs.toList sec) (hne : ∀ gp ∈ sec, gp ≠ []) (hok : OkG sec) (hlen : sec.length ≤ 1000)
    (q : ∀ h' tk' R', Sub R R' → St R' ((L, NsO m) :: (c, CeO (some (.ref sl))) :: (sl, LsO xs) :: led) h' → Q (insB sec) ⟨h', g, dr, tk', os⟩) :
    wpAny (MD w) A (isTrue (.Call (.Name "inside_section" p1) [] [] p2) env (eval (.Call (.Name "inside_section" p1) [] [] p2) env)) Q E ⟨h, g, dr, tk, os⟩ := by
  refine wpAny_isTrue_value ?_
  refine wpAny_Call_ofName ?_
  refine ld_name S n hx hm ?_
  obtain ⟨doc, pm, c', ctv, ef, hrec⟩ := hf
  refine callWith_F0 ⟨_, _, _, _, S.sub _ _ ef⟩ ?_
  refine clos_in o T (S.f2.f2) ef hrec hsec hne hok hlen fun h1 tk1 R1 k1 S1 => ?_
  refine wpAny_truthy_bool ?_
  exact q h1 tk1 R1 k1 S1.f2
theorem e_outside {L c sl f : Addr} {m : Str → Option Value} {xs : Array Value} {sec : List (List Pair)} {p1 p2 : Pos} {Q : Bool → Shared → Prop} (o : Aok 300 A) (T : Stat w mg mb R) (S : St R ((L, NsO m) :: (c, CeO (some (.ref sl))) :: (sl, LsO xs) :: led) h) (n : Names env L)
    (hx : env.kindOf "outside_section" = some .local) (hm : m "outside_section" = some (.ref f)) (hf : FnOut w R f c) (hsec : All2 (TagsAt R) xs.toList sec) (hne : ∀ gp ∈ sec, gp ≠ []) (hok : OkG sec) (hlen : sec.length ≤ 1000)
    (q : ∀ h' tk' R', Sub R R' → St R' ((L, NsO m) :: (c, CeO (some (.ref sl))) :: (sl, LsO xs) :: led) h' → Q (!insB sec) ⟨h', g, dr, tk', os⟩) :
    wpAny (MD w) A (isTrue (.Call (.Name "outside_section" p1) [] [] p2) env (eval (.Call (.Name "outside_section" p1) [] [] p2) env)) Q E ⟨h, g, dr, tk, os⟩ := by
  refine wpAny_isTrue_value ?_
  refine wpAny_Call_ofName ?_
  refine ld_name S n hx hm ?_
  obtain ⟨doc, pm, c', ctv, ef, hrec⟩ := hf
  refine callWith_F0 ⟨_, _, _, _, S.sub _ _ ef⟩ ?_
  refine clos_out o T (S.f2.f2) ef hrec hsec hne hok hlen fun h1 tk1 R1 k1 S1 => ?_
  refine wpAny_truthy_bool ?_
  exact q h1 tk1 R1 k1 S1.f2

theorem attr_any {value : Expr} {attr : Str} {pos : Pos} {s : Shared} {Q : Value → Shared → Prop} (q : wpAny (MD w) A (eval value env) (fun o s₁ => wpAny (MD w) A (getAttr o attr true) Q E s₁) E s)
    (hb : attributeBase value attr env (eval value env) = eval value env := by rfl) : wpAny (MD w) A (eval (.Attribute value attr pos) env) Q E s := by
  rw [arm_eval_Attribute, hb]
  refine wpAny_bind (wpAny_mono q (fun o s₁ z => wpAny_bind (wpAny_standAt (wpAny_bind (wpAny_holding (wpAny_mono z (fun r s₂ z => ?_) fun _ _ z => z))))) fun _ _ z => z)
  exact wpAny_bind (wpAny_letTemporaryGo (wpAny_pure z))

theorem e_lenTags {x : Expr} {p1 p2 : Pos} {Q : Value → Shared → Prop} (o : Aok 100 A) (e : Env0 env) (hx : env.kindOf "len" = some .globalImplicit) (T : Stat w mg mb h)
    (q : wpAny (MD w) A (eval x env) (fun v s₁ => ∃ a d vs n h₁ g₁ tk₁, v = .ref a ∧ s₁ = ⟨h₁, g₁, dr, tk₁, os⟩ ∧ (KF w).In h₁ ∧ h₁.get? a = some (tagsObj d (List.toArray vs) n) ∧ vs.length ≤ 900 ∧ ∀ t h' tk', Sub h₁ h' → Q (.int vs.length t) ⟨h', g₁, dr, tk', os⟩) E ⟨h, g, dr, tk, os⟩)
    (he : starEach [x] env = [(false, eval x env)] := by rfl) : wpAny (MD w) A (eval (.Call (.Name "len" p1) [x] [] p2) env) Q E ⟨h, g, dr, tk, os⟩ := by
  refine wpAny_Call_ofName ?_
  refine ld_builtin T (v := .builtin "len") (by kernel_rfl) (by kernel_rfl) (by decide) ?_ e.glo e.bui e.fn hx
  rw [he]
  refine Calls.callWith_builtin rfl (Calls.evalArgs_plain (Calls.spliced_cons (wpAny_mono q (fun v s₁ z => Calls.spliced_nil ?_) fun _ _ z => z)))
  obtain ⟨a, d, vs, n, h₁, g₁, tk₁, rfl, rfl, X, ea, hs, z⟩ := z
  refine wpAny_mono (wpAny_AB o (tagsLen_run w h₁ g₁ dr tk₁ os X a d vs n (by omega) ea)) ?_ fun _ _ z => False.elim z
  rintro _ _ ⟨h', tk', t, rfl, rfl, k⟩
  exact z t h' tk' k
end
end Fw

namespace Fw
open PySem PySem.W PySem.W.X PyProof.Rows PySem.Spec PySem.Calls

section
variable {w : World} {mg mb : Str → Option Value} {A : Around} {E : Value → Shared → Prop} {R h : Heap} {g : Array GenState} {dr : Drawn} {tk : Nat} {os : OsState} {env : Env} {led rest : Led} {δ ε : Type}

def Inv5 (w : World) (R₀ : Heap) (L f1 f2 : Addr) (lets : Bool) (led0 : Led) (res : Option Secs) (rem : List (List Pair)) (R : Heap) (ld : Led) : Prop :=
  Sub R₀ R ∧ ∃ m sl xs sec dd kvs secs e,
    ld = (L, NsO m) :: (L + 1, CeO (some (.ref sl))) :: (sl, LsO xs) :: (dd, DiO w kvs) :: led0 ∧
    (m "inside_section" = some (.ref f1) ∧ m "outside_section" = some (.ref f2) ∧ (m "sections" = some (.ref dd) ∧ 405 < dd) ∧ m "eof" = some (.bool e) ∧ m "ignore_missing_eof" = some (.bool lets)) ∧
    All2 (TagsAt R) xs.toList sec ∧ All2 (SecAt R) kvs secs ∧ (∀ gp ∈ sec, gp ≠ []) ∧ OkG sec ∧ sec.length + rem.length ≤ 900 ∧ secs.length + rem.length ≤ 900 ∧
    (∀ gp ∈ rem, gp ≠ []) ∧ OkG rem ∧ run lets rem secs sec e = res
theorem Inv5.up {R₀ : Heap} {L f1 f2 : Addr} {lets : Bool} {led0 : Led} {res : Option Secs} : ∀ rem R R' ld, Sub R R' → Inv5 w R₀ L f1 f2 lets led0 res rem R ld → Inv5 w R₀ L f1 f2 lets led0 res rem R' ld := by
  rintro rem R R' ld k ⟨h0, m, sl, xs, sec, dd, kvs, secs, e, e1, e2, h1, h2, r⟩
  exact ⟨h0.trans k, m, sl, xs, sec, dd, kvs, secs, e, e1, e2, h1.mono fun _ _ => TagsAt.up k, h2.mono fun _ _ => SecAt.up k, r⟩

/-- what a raise in the function comes to -/
def RaisesTo (w : World) (R₀ : Heap) (L : Addr) (outer : List Env) (led0 : Led) (g₀ : Array GenState) (dr : Drawn) (os : OsState) (E2 : Value → Shared → Prop) : Prop :=
  ∀ e h' tk' g' R' X, Sub R₀ R' → (∀ p ∈ led0, p ∈ X) → FlyS R' X (L :: outer.filterMap (·.frame)) outer e h' → (AllBare g₀ → AllBare g') → E2 (.ref e) ⟨h', g', dr, tk', os⟩
def fnE (w : World) (A : Around) (env : Env) (E2 : Value → Shared → Prop) : Value → Shared → Prop := fun e s' => wpAny (MD w) A (leaving env e) (fun _ s'' => E2 e s'') (fun e' s'' => E2 e' s'') s'

set_option maxHeartbeats 4000000 in
theorem load_turn {L f1 f2 : Addr} {lets : Bool} {led0 : Led} {res : Option Secs} {outer : List Env} {R₀ : Heap} {g₀ : Array GenState} {QF : Flow → Shared → Prop} {E2 : Value → Shared → Prop} (o : Aok 400 A) (hL : 405 < L) (hfr : A.frames = some (denv w L :: outer)) (hO : Outer outer led0)
    (hf1 : FnIn w R₀ f1 (L + 1)) (hf2 : FnOut w R₀ f2 (L + 1)) (qE : res = none → RaisesTo w R₀ L outer led0 g₀ dr os E2)
    {d : List Pair} {ds : List (List Pair)} {v : Value} {tail : Led} (hI : Inv5 w R₀ L f1 f2 lets led0 res (d :: ds) R led) (T : Stat w mg mb R) (S : St R (led ++ tail) h) (hv : TagsAt R v d) (hb : AllBare g₀ → AllBare g) :
    wpAny (MD w) A (assign (forT (dst w 5)) (denv w L) v) (fun _ s₂ => wpAny (MD w) A (execs (forB (dst w 5)) (denv w L)) (fun f s₃ => match f with
        | .next | .cont => ∃ h' g' tk' R' led', s₃ = ⟨h', g', dr, tk', os⟩ ∧ Sub R R' ∧ St R' (led' ++ tail) h' ∧ Inv5 w R₀ L f1 f2 lets led0 res ds R' led' ∧ (g' = g ∨ false = true) ∧ (AllBare g → AllBare g')
        | .brk => QF .next s₃
        | .ret v => QF (.ret v) s₃) (notedBy (MD w) A (denv w L) fun e s' => cameBackBy (MD w) A (denv w L) (fnE w A (denv w L) E2) e s') s₂) (notedBy (MD w) A (denv w L) fun e s' => cameBackBy (MD w) A (denv w L) (fnE w A (denv w L) E2) e s') ⟨h, g, dr, tk, os⟩ := by
  obtain ⟨h0, m, sl, xs, sec, dd, kvs, secs, e, rfl, ⟨m1, m2, m3, m4, m5⟩, hsec, hkv, hne, hok, hl1, hl2, hrne, hrok, hrun⟩ := hI
  have hdne := hrne d (.head _)
  cases d with
  | nil => exact absurd rfl hdne
  | cons p ps =>
    obtain ⟨va, vd, vvs, vn, rfl, eva, evd, val, vlen⟩ := hv
    cases val with
    | cons hp0 hps =>
      rename_i tv tvs
      obtain ⟨ta, td, t1, t2, rfl, eta, etd⟩ := hp0
      have okp : PyData.strOk p.2 = true := hrok _ (.head _) _ (.head _)
      refine st_name S (dnames L) (by kernel_rfl) fun h1 tk1 S1 => ?_
      refine wpAny_execs_cons ?_
      refine wpAny_Assign_Name ?_
      refine sub_tags (dr := dr) (os := os) ?_
      refine ld_name S1 (dnames L) (by kernel_rfl) upd_self ?_
      refine k_int fun t3 tk3 => ?_
      refine ⟨va, vd, _, vn, h1, g, tk3, rfl, rfl, KIn.up T.K S1.sub, S1.sub _ _ eva, S1.sub _ _ evd, ?_⟩
      refine get0_tags (o.less 100 (by decide)) (KIn.up T.K S1.sub) (S1.sub _ _ eva) fun h2 tk2 k2 => ?_
      refine st_local (S1.ext k2) rfl (by kernel_rfl) (fun h3 tk3 S3 _ => ?_) (by kernel_rfl)
      generalize hm3 : upd (upd m "entity" (.ref va)) "tag" (.ref ta) = m3' at S3
      have n1 : m3' "inside_section" = some (.ref f1) := by rw [← hm3, upd_ne (by decide), upd_ne (by decide)]; exact m1
      have n2 : m3' "outside_section" = some (.ref f2) := by rw [← hm3, upd_ne (by decide), upd_ne (by decide)]; exact m2
      have n3 : m3' "sections" = some (.ref dd) := by rw [← hm3, upd_ne (by decide), upd_ne (by decide)]; exact m3.1
      have n4 : m3' "eof" = some (.bool e) := by rw [← hm3, upd_ne (by decide), upd_ne (by decide)]; exact m4
      have n5 : m3' "ignore_missing_eof" = some (.bool lets) := by rw [← hm3, upd_ne (by decide), upd_ne (by decide)]; exact m5
      have n6 : m3' "tag" = some (.ref ta) := by rw [← hm3]; exact upd_self
      have n7 : m3' "entity" = some (.ref va) := by rw [← hm3, upd_ne (by decide)]; exact upd_self
      refine wpAny_execs_cons ?_
      refine wpAny_If ?_
      refine e_tagIs (ps := ps) (o.less 200 (by decide)) T S3 (dnames L) hL (by kernel_rfl) n6 eta etd okp (by decide +kernel) fun h4 tk4 R4 k4 S4 => ?_
      have rAny : ∀ (X : Led) R6 h6 tk6 e6 h7 vs, Sub R R6 → St R6 X h6 → (∀ p ∈ led0, p ∈ X) → (∃ mm, (L, NsO mm) ∈ X) → Heap.MadeExcOf h6 h7 e6 (.ref 44) vs → res = none →
          notedBy (MD w) A (denv w L) (fun e s' => cameBackBy (MD w) A (denv w L) (fnE w A (denv w L) E2) e s') (.ref e6) ⟨h7, g, dr, tk6, os⟩ := by
        intro X R6 h6 tk6 e6 h7 vs k6 S6 hX hLX hm6 hres
        obtain ⟨mm, hmm⟩ := hLX
        refine raise_loop (m := mm) S6 (by rw [(dnames (w := w) L).fn]; decide) rfl hmm (fun x hx => ?_) hfr hm6 fun h8 hfly => ?_
        · obtain ⟨a1, L', m', a2, a3⟩ := hO x hx
          exact ⟨a1, L', m', a2, hX _ a3⟩
        · exact qE hres e6 h8 tk6 g R6 X (h0.trans k6) hX hfly hb
      have T4 : Stat w mg mb R4 := T.up k4
      split
      · next hS =>
        -- a section begins
        refine wpAny_execs_cons ?_
        refine wpAny_If ?_
        refine e_inside (o.less 300 (by decide)) T4 S4 (dnames L) (by kernel_rfl) n1 ((hf1.up h0).up k4) (hsec.mono fun _ _ => TagsAt.up k4) hne hok (by simp at hl1; omega) fun h5 tk5 R5 k5 S5 => ?_
        split
        · next hi =>
          refine wpAny_execs_cons ?_
          refine raise_made (denv0 L) (by kernel_rfl) o.hd ((T4.up k5).up S5.sub) fun e6 h6 tk6 vs6 hm6 => ?_
          refine rAny _ R5 h5 tk6 e6 h6 vs6 (k4.trans k5) S5 (fun p hp => .tail _ (.tail _ (.tail _ (.tail _ (List.mem_append_left _ hp))))) ⟨_, .head _⟩ hm6 ?_
          rw [← hrun, run_cons, if_pos hS, if_pos hi]
        · next hi =>
          refine wpAny_execs_nil ?_
          refine wpAny_execs_cons ?_
          refine wpAny_Assign_Name ?_
          refine e_list ?_
          refine spl_cons ?_
          refine ld_name S5 (dnames L) (by kernel_rfl) n7 ?_
          refine spl_nil ⟨by show 1 ≤ 1000; omega, h5, g, tk5, R5, _, rfl, S5, fun b h6 S6 => ?_⟩
          refine st_cell (by kernel_rfl) (by kernel_rfl) (by kernel_rfl) S6.f2 fun h7 S7 => ?_
          refine wpAny_execs_nil ?_
          refine wpAny_execs_nil ?_
          refine ⟨h7, g, tk5, R5, (L, NsO m3') :: (L + 1, CeO (some (.ref b))) :: (b, LsO #[Value.ref va]) :: (dd, DiO w kvs) :: led0, rfl, k4.trans k5, ?_, ?_, .inl rfl, fun b => b⟩
          · have S8 : St R5 ((L + 1, CeO (some (.ref b))) :: (b, LsO #[Value.ref va]) :: (L, NsO m3') :: ((dd, DiO w kvs) :: led0 ++ tail)) h7 := (S7.f3.tail)
            exact S8.f2
          · refine ⟨h0.trans (k4.trans k5), m3', b, _, [p :: ps], dd, kvs, secs, e, rfl, ⟨n1, n2, ⟨n3, m3.2⟩, n4, n5⟩, .cons ⟨va, vd, _, vn, rfl, (k4.trans k5) _ _ eva, (k4.trans k5) _ _ evd, .cons ⟨ta, td, t1, t2, rfl, (k4.trans k5) _ _ eta, (k4.trans k5) _ _ etd⟩ (hps.mono fun _ _ => TagAt.up (k4.trans k5)), vlen⟩ .nil, hkv.mono fun _ _ => SecAt.up (k4.trans k5), ?_, ?_, ?_, ?_, fun gp hgp => hrne gp (.tail _ hgp), fun gp hgp => hrok gp (.tail _ hgp), ?_⟩
            · intro gp hgp; cases List.mem_singleton.mp hgp; exact hdne
            · intro gp hgp; cases List.mem_singleton.mp hgp; exact hrok _ (.head _)
            · simp at hl1 ⊢; omega
            · simp at hl2 ⊢; omega
            · rw [← hrun, run_cons, if_pos hS, if_neg hi]
      · next hS =>
        refine wpAny_execs_cons ?_
        refine wpAny_If ?_
        refine e_tagIs (ps := ps) (o.less 200 (by decide)) T4 S4 (dnames L) hL (by kernel_rfl) n6 (k4 _ _ eta) (k4 _ _ etd) okp (by decide +kernel) fun h5 tk5 R5 k5 S5 => ?_
        split
        · next hN =>
          refine wpAny_execs_cons ?_
          refine wpAny_If ?_
          refine e_outside (o.less 300 (by decide)) (T4.up k5) S5 (dnames L) (by kernel_rfl) n2 (((hf2.up h0).up k4).up k5) (hsec.mono fun _ _ => TagsAt.up (k4.trans k5)) hne hok (by simp at hl1; omega) fun h6 tk6 R6 k6 S6 => ?_
          have kk6 : Sub R R6 := k4.trans (k5.trans k6)
          have T6 : Stat w mg mb R6 := T.up kk6
          cases hi : insB sec with
          | false =>
            rw [if_pos (by rfl)]
            refine wpAny_execs_cons ?_
            refine raise_made (denv0 L) (by kernel_rfl) o.hd (T6.up S6.sub) fun e7 h7 tk7 vs7 hm7 => ?_
            refine rAny _ R6 h6 tk7 e7 h7 vs7 kk6 S6 (fun p hp => .tail _ (.tail _ (.tail _ (.tail _ (List.mem_append_left _ hp))))) ⟨_, .head _⟩ hm7 ?_
            rw [← hrun, run_cons, if_neg hS, if_pos hN, if_neg (by rw [hi]; decide)]
          | true =>
            rw [if_neg (by decide)]
            refine wpAny_execs_nil ?_
            cases sec with
            | nil => cases hi
            | cons hdg srest =>
              have hhne := hne hdg (.head _)
              have hhok := hok hdg (.head _)
              obtain ⟨hv, hvx, hvt⟩ : ∃ v, xs.toList[0]? = some v ∧ TagsAt R v hdg := hsec.get (i := 0) rfl
              obtain ⟨ha, hd0, hvs, hn, rfl, eha, ehd, hal, hlen⟩ := hvt
              have hval := hal.length
              -- section_header = section[0]
              refine wpAny_execs_cons ?_
              refine wpAny_Assign_Name ?_
              refine sub_rule ?_
              refine ld_cell (by kernel_rfl) (by kernel_rfl) (c := L + 1) (by kernel_rfl) (v := .ref sl) S6.f1.head ?_
              refine k_int fun t7 tk7 => ?_
              refine item_list (LsO.isList S6.f2.head) (by omega) (by omega) (x := .ref ha) (by simpa using hvx) ?_
              refine st_local S6 rfl (by kernel_rfl) (fun h8 tk8 S8 _ => ?_) (by kernel_rfl)
              -- its name
              refine wpAny_execs_cons ?_
              refine wpAny_If ?_
              refine isTrue_or ?_
              refine wpAny_isTrue_Compare1 ?_
              refine e_lenTags (o.less 100 (by decide)) (denv0 L) (by kernel_rfl) (T6.up S8.sub) ?_
              refine ld_name S8 (dnames L) (by kernel_rfl) upd_self ?_
              refine ⟨ha, hd0, hvs, hn, h8, g, tk8, rfl, rfl, KIn.up T6.K S8.sub, S8.sub _ _ (kk6 _ _ eha), hlen, fun t9 h9 tk9 k9 => ?_⟩
              have S9 := S8.ext k9
              refine k_int fun t10 tk10 => ?_
              refine PyProof.Rows.lt_int ?_
              refine wpAny_truthy_bool ?_
              have rNone : secName (hdg :: srest) = none → res = none := fun z => by
                rw [← hrun, run_cons, if_neg hS, if_pos hN, if_pos hi, z]
              cases hvs with
              | nil =>
                rw [if_pos (by simp)]
                rw [if_pos rfl]
                refine wpAny_execs_cons ?_
                refine raise_made (denv0 L) (by kernel_rfl) o.hd (T6.up S9.sub) fun e11 h11 tk11 vs11 hm11 => ?_
                refine rAny _ R6 h9 tk11 e11 h11 vs11 kk6 S9 (fun p hp => .tail _ (.tail _ (.tail _ (.tail _ (List.mem_append_left _ hp))))) ⟨_, .head _⟩ hm11 (rNone ?_)
                cases hal; rfl
              | cons w0 hvs =>
                cases hvs with
                | nil =>
                  rw [if_pos (by simp)]
                  rw [if_pos rfl]
                  refine wpAny_execs_cons ?_
                  refine raise_made (denv0 L) (by kernel_rfl) o.hd (T6.up S9.sub) fun e11 h11 tk11 vs11 hm11 => ?_
                  refine rAny _ R6 h9 tk11 e11 h11 vs11 kk6 S9 (fun p hp => .tail _ (.tail _ (.tail _ (.tail _ (List.mem_append_left _ hp))))) ⟨_, .head _⟩ hm11 (rNone ?_)
                  cases hal with
                  | cons _ x => cases x; rfl
                | cons w1 hvs =>
                  rw [if_neg (by simp; omega)]
                  cases hal with
                  | cons hq0 hal =>
                    cases hal with
                    | cons hq1 hal =>
                      rename_i q0 q1 qs
                      obtain ⟨qa, qd, u1, u2, rfl, eqa, eqd⟩ := hq1
                      refine isTrue_or ?_
                      refine wpAny_isTrue_Compare1 ?_
                      refine attr_any ?_
                      refine sub_tags (dr := dr) (os := os) ?_
                      refine ld_name S9 (dnames L) (by kernel_rfl) upd_self ?_
                      refine k_int fun t11 tk11 => ?_
                      refine ⟨ha, hd0, _, hn, h9, g, tk11, rfl, rfl, KIn.up T6.K S9.sub, S9.sub _ _ (kk6 _ _ eha), S9.sub _ _ (kk6 _ _ ehd), ?_⟩
                      refine get1_tags (o.less 100 (by decide)) (KIn.up T6.K S9.sub) (S9.sub _ _ (kk6 _ _ eha)) fun h12 tk12 k12 => ?_
                      have S12 := S9.ext k12
                      refine attr_code (o.less 120 (by decide)) (KIn.up T6.K S12.sub) (S12.sub _ _ (kk6 _ _ eqa)) (S12.sub _ _ (kk6 _ _ eqd)) fun h13 tk13 k13 => ?_
                      have S13 := S12.ext k13
                      refine k_int fun t14 tk14 => ?_
                      refine PyProof.Rows.ne_int ?_
                      refine wpAny_truthy_bool ?_
                      by_cases hq2 : q1.1 = 2
                      · rw [if_neg (by rw [hq2]; decide)]
                        refine isTrue_or_nil ?_
                        rw [if_neg (by decide)]
                        refine wpAny_execs_nil ?_
                        -- the name
                        refine wpAny_execs_cons ?_
                        refine wpAny_Assign_Name ?_
                        refine sub_tags (dr := dr) (os := os) ?_
                        refine ld_name S13 (dnames L) (by kernel_rfl) upd_self ?_
                        refine k_int fun t15 tk15 => ?_
                        refine ⟨ha, hd0, _, hn, h13, g, tk15, rfl, rfl, KIn.up T6.K S13.sub, S13.sub _ _ (kk6 _ _ eha), S13.sub _ _ (kk6 _ _ ehd), ?_⟩
                        refine get1_tags (o.less 100 (by decide)) (KIn.up T6.K S13.sub) (S13.sub _ _ (kk6 _ _ eha)) fun h16 tk16 k16 => ?_
                        refine st_local (S13.ext k16) rfl (by kernel_rfl) (fun h17 tk17 S17 _ => ?_) (by kernel_rfl)
                        -- the store
                        refine wpAny_execs_cons ?_
                        refine wpAny_Assign_Subscript ?_
                        refine ld_cell (by kernel_rfl) (by kernel_rfl) (c := L + 1) (by kernel_rfl) (v := .ref sl) S17.f1.head ?_
                        refine ld_name S17 (dnames L) (by kernel_rfl) (v := .ref dd) (by rw [upd_ne (by decide), upd_ne (by decide)]; exact n3) ?_
                        refine attr_any ?_
                        refine ld_name S17 (dnames L) (by kernel_rfl) upd_self ?_
                        refine attr_value (o.less 120 (by decide)) (KIn.up T6.K S17.sub) (S17.sub _ _ (kk6 _ _ eqa)) (S17.sub _ _ (kk6 _ _ eqd)) fun h18 tk18 k18 => ?_
                        have S18 := S17.ext k18
                        have hkl := hkv.length
                        refine wpAny_setItem_pairs (knd := strKind PG w) (k := q1.2) (by simp [PySem.strKind, Value.isStrOf]) (DiO.dictOf S18.f3.head) (fun h19 hd19 hs19 => ?_) (by rw [sizeLine_eq, hkl]; simp at hl2; omega)
                        have S19 := S18.f3.ch (P' := DiO w (put kvs q1.2 (.ref sl))) hs19.extBut (DiO.of hd19)
                        -- a new section
                        refine wpAny_execs_cons ?_
                        refine wpAny_Assign_Name ?_
                        refine e_list ?_
                        refine spl_nil ⟨by show 0 ≤ 1000; omega, h19, g, _, R6, _, rfl, S19, fun b h20 S20 => ?_⟩
                        refine st_cell (by kernel_rfl) (by kernel_rfl) (by kernel_rfl) S20.f3 fun h21 S21 => ?_
                        -- (L+1, b, dd, L, sl) : the old section is frozen
                        obtain ⟨R22, k22, S22, ⟨osl, esl, hsl⟩, _⟩ := S21.f4.freezeHead
                        have kf : Sub R R22 := kk6.trans k22
                        refine wpAny_execs_nil ?_
                        refine wpAny_execs_nil ?_
                        refine wpAny_execs_nil ?_
                        refine ⟨h21, g, _, R22, _ :: (L + 1, CeO (some (.ref b))) :: (b, LsO #[]) :: (dd, DiO w (put kvs q1.2 (.ref sl))) :: led0, rfl, kf, S22.f3, ?_, .inl rfl, fun b => b⟩
                        refine ⟨h0.trans kf, _, b, #[], [], dd, _, put secs q1.2 ((q0 :: q1 :: qs) :: srest), e, rfl, ⟨?_, ?_, ?_, ?_, ?_⟩, .nil, put_all ⟨sl, osl, xs.toList, rfl, esl, hsl, hsec.mono fun _ _ => TagsAt.up kf⟩ (hkv.mono fun _ _ => SecAt.up kf), (fun gp hgp => by cases hgp), (fun gp hgp => by cases hgp), by simp at hl1 ⊢; omega, ?_, fun gp hgp => hrne gp (.tail _ hgp), fun gp hgp => hrok gp (.tail _ hgp), ?_⟩
                        · rw [upd_ne (by decide), upd_ne (by decide)]; exact n1
                        · rw [upd_ne (by decide), upd_ne (by decide)]; exact n2
                        · exact ⟨by rw [upd_ne (by decide), upd_ne (by decide)]; exact n3, m3.2⟩
                        · rw [upd_ne (by decide), upd_ne (by decide)]; exact n4
                        · rw [upd_ne (by decide), upd_ne (by decide)]; exact n5
                        · have := put_length secs q1.2 ((q0 :: q1 :: qs) :: srest)
                          simp at hl2; omega
                        · have hsn : secName ((q0 :: q1 :: qs) :: srest) = some q1.2 := if_pos hq2
                          rw [← hrun, run_cons, if_neg hS, if_pos hN, if_pos hi, hsn]
                      · rw [if_pos (by simpa using hq2)]
                        rw [if_pos rfl]
                        refine wpAny_execs_cons ?_
                        refine raise_made (denv0 L) (by kernel_rfl) o.hd (T6.up S13.sub) fun e15 h15 tk15 vs15 hm15 => ?_
                        refine rAny _ R6 h13 tk15 e15 h15 vs15 kk6 S13 (fun p hp => .tail _ (.tail _ (.tail _ (.tail _ (List.mem_append_left _ hp))))) ⟨_, .head _⟩ hm15 (rNone ?_)
                        exact if_neg hq2
        · next hN =>
          refine wpAny_execs_cons ?_
          refine wpAny_If ?_
          refine e_tagIs (ps := ps) (o.less 200 (by decide)) (T4.up k5) S5 (dnames L) hL (by kernel_rfl) n6 (k5 _ _ (k4 _ _ eta)) (k5 _ _ (k4 _ _ etd)) okp (by decide +kernel) fun h6 tk6 R6 k6 S6 => ?_
          have kk : Sub R R6 := k4.trans (k5.trans k6)
          split
          · next hE =>
            refine wpAny_execs_cons ?_
            refine wpAny_Assign_Name ?_
            refine Constant_bool ?_
            refine st_local S6 rfl (by kernel_rfl) (fun h7 tk7 S7 _ => ?_) (by kernel_rfl)
            refine wpAny_execs_nil ?_
            refine wpAny_execs_nil ?_
            refine wpAny_execs_nil ?_
            refine wpAny_execs_nil ?_
            refine ⟨h7, g, tk7, R6, (L, NsO (upd m3' "eof" (.bool true))) :: (L + 1, CeO (some (.ref sl))) :: (sl, LsO xs) :: (dd, DiO w kvs) :: led0, rfl, kk, S7, ?_, .inl rfl, fun b => b⟩
            refine ⟨h0.trans kk, _, sl, xs, sec, dd, kvs, secs, true, rfl, ⟨?_, ?_, ?_, upd_self, ?_⟩, hsec.mono fun _ _ => TagsAt.up kk, hkv.mono fun _ _ => SecAt.up kk, hne, hok, by simp at hl1; omega, by simp at hl2; omega, fun gp hgp => hrne gp (.tail _ hgp), fun gp hgp => hrok gp (.tail _ hgp), ?_⟩
            · exact (upd_ne (by decide)).trans n1
            · exact (upd_ne (by decide)).trans n2
            · exact ⟨(upd_ne (by decide)).trans n3, m3.2⟩
            · exact (upd_ne (by decide)).trans n5
            · rw [← hrun, run_cons, if_neg hS, if_neg hN, if_pos hE]
          · next hE =>
            refine wpAny_execs_cons ?_
            refine wpAny_Expr_any ?_
            refine e_append ?_
            refine ld_cell (by kernel_rfl) (by kernel_rfl) (c := L + 1) (by kernel_rfl) (v := .ref sl) S6.f1.head ?_
            refine ⟨sl, rfl, LsO.obj S6.f2, ?_⟩
            refine ld_name S6 (dnames L) (by kernel_rfl) n7 ?_
            have hxl := hsec.length
            rw [Array.length_toList] at hxl
            refine ⟨h6, g, tk6, R6, _, xs, rfl, S6.f2, by simp at hl1; omega, fun h7 S7 => ?_⟩
            refine wpAny_execs_nil ?_
            refine wpAny_execs_nil ?_
            refine wpAny_execs_nil ?_
            refine wpAny_execs_nil ?_
            refine ⟨h7, g, tk6, R6, (L, NsO m3') :: (L + 1, CeO (some (.ref sl))) :: (sl, LsO (xs.push (.ref va))) :: (dd, DiO w kvs) :: led0, rfl, kk, S7.f2.f2, ?_, .inl rfl, fun b => b⟩
            refine ⟨h0.trans kk, m3', sl, _, sec ++ [p :: ps], dd, kvs, secs, e, rfl, ⟨n1, n2, ⟨n3, m3.2⟩, n4, n5⟩, ?_, hkv.mono fun _ _ => SecAt.up kk, ?_, ?_, ?_, ?_, fun gp hgp => hrne gp (.tail _ hgp), fun gp hgp => hrok gp (.tail _ hgp), ?_⟩
            · rw [Array.toList_push]
              exact (hsec.mono fun _ _ => TagsAt.up kk).snoc ⟨va, vd, _, vn, rfl, kk _ _ eva, kk _ _ evd, .cons ⟨ta, td, t1, t2, rfl, kk _ _ eta, kk _ _ etd⟩ (hps.mono fun _ _ => TagAt.up kk), vlen⟩
            · intro gp hgp
              rcases List.mem_append.mp hgp with z | z
              · exact hne gp z
              · cases List.mem_singleton.mp z; exact hdne
            · intro gp hgp
              rcases List.mem_append.mp hgp with z | z
              · exact hok gp z
              · cases List.mem_singleton.mp z; exact hrok _ (.head _)
            · simp at hl1 ⊢; omega
            · simp at hl2 ⊢; omega
            · rw [← hrun, run_cons, if_neg hS, if_neg hN, if_neg hE]
end
end Fw

namespace Fw
open PySem PySem.W PySem.W.X PyProof.Rows PySem.Spec PySem.Calls

theorem emit_ne {sc : Int} : ∀ (ps : List Pair) (cur : Option (List Pair)), (∀ g, cur = some g → g ≠ []) → ∀ gp ∈ emit sc cur ps, gp ≠ []
  | [], none, _ => fun gp h => nomatch h
  | [], some g, hc => fun gp h => by cases List.mem_singleton.mp h; exact hc _ rfl
  | t :: r, none, hc => by
    unfold emit; split
    · exact emit_ne r _ fun g e => by cases e; exact fun z => nomatch z
    · exact emit_ne r _ fun g e => nomatch e
  | t :: r, some g, hc => by
    unfold emit; split
    · refine fun gp hgp => ?_
      rcases List.mem_cons.mp hgp with rfl | hgp
      · exact hc _ rfl
      · exact emit_ne r _ (fun g e => by cases e; exact fun z => nomatch z) gp hgp
    · exact emit_ne r _ fun g' e => by cases e; simp

section
variable {w : World} {mg mb : Str → Option Value} {A : Around} {E : Value → Shared → Prop} {R h : Heap} {g : Array GenState} {dr : Drawn} {tk : Nat} {os : OsState} {env : Env} {led rest : Led} {δ ε : Type}

noncomputable def drest (w : World) : List Stmt := (stmtsOf (fnAt w 383).body).drop 2
theorem dbody_eq : (fnAt w 383).body = .stmts (dst w 0 :: dst w 1 :: drest w) := by with_unfolding_all rfl

set_option maxHeartbeats 4000000 in
theorem load_call {tl : Addr} {ts : List Pair} {lets : Bool} {vals : List Value} {ps : Array Value} {outer : List Env} {Q : Value → Shared → Prop} (o : Aok 460 A) (T : Stat w mg mb R) (S : St R ((378, TabO ps) :: led) h) (ht : Tab2 w R ps) (X : TagsL R tl ts) (lenb : ts.length ≤ 100) (hok : OkP ts)
    (hfr : A.frames = some outer) (hO : Outer outer led) (hv : (vals = [.ref tl] ∧ lets = false) ∨ (vals = [.ref tl, .bool true] ∧ lets = true))
    (qOk : ∀ d od kvs secs h' tk' g' R' ps', run lets (emit 0 none ts) [] [] false = some secs → Sub R R' → Tab2 w R' ps' → St R' ((378, TabO ps') :: led) h' → R'.get? d = some od → 405 < d → DiO w kvs od → All2 (SecAt R') kvs secs → (AllBare g → AllBare g') → Q (.ref d) ⟨h', g', dr, tk', os⟩)
    (qEx : run lets (emit 0 none ts) [] [] false = none → ∀ e h' tk' g' R' ps' Y F, Sub R R' → Tab2 w R' ps' → (∀ p ∈ (378, TabO ps') :: led, p ∈ Y) → FlyS R' Y F outer e h' → (∀ a ∈ outer.filterMap (·.frame), a ∈ F) → (AllBare g → AllBare g') → E (.ref e) ⟨h', g', dr, tk', os⟩) :
    wpAny (MD w) A (PySem.call (.ref 383) vals) Q E ⟨h, g, dr, tk, os⟩ := by
  have Xh : (KF w).In h := KIn.up T.K S.sub
  have hb : BindsTo ⟨h, g, dr, tk, os⟩ (fnAt w 383) ⟨vals, []⟩ [("tagger", .ref tl), ("ignore_missing_eof", .bool lets)] := by
    rcases hv with ⟨rfl, rfl⟩ | ⟨rfl, rfl⟩
    · exact kp_binds Xh fun S => by kernel_rfl
    · exact kp_binds Xh fun S => by kernel_rfl
  refine callKB (n := 440) (binds := [("tagger", .ref tl), ("ignore_missing_eof", .bool lets)]) (o.less 460 (by decide)) (T.up S.sub) (by kernel_rfl) (by kernel_rfl) dbody_eq hb (by kernel_rfl) (by kernel_rfl) (by kernel_rfl) (by kernel_rfl) (by kernel_rfl) ?_
  intro h₁ tk₁ L hsz k₁ hn hnone hcells od
  have hL : 405 < L := Nat.lt_of_lt_of_le (size_of_K Xh) hsz
  obtain ⟨hce, hcn⟩ := hcells "section" (L + 1) (by kernel_rfl)
  obtain ⟨oce, ece, qce⟩ := hce
  have hce' : ∃ o, h₁.get? (L + 1) = some o ∧ CeO none o := ⟨oce, ece, qce⟩
  obtain ⟨oL, eL, qL⟩ := NsO.of hn
  have S1 : St R ((L + 1, CeO none) :: (L, NsO _) :: (378, TabO ps) :: led) h₁ := St.addMany k₁ (new := [(L + 1, CeO none), (L, NsO _)]) (fun p hp => by
    rcases List.mem_cons.mp hp with rfl | hp
    · exact ⟨hce', hcn⟩
    · cases List.mem_singleton.mp hp
      exact ⟨⟨oL, eL, qL⟩, hnone⟩) (by simp) S
  generalize hm0 : (bindL (envAt w 383 L).kindOf [(("tagger" : Str), Value.ref tl), ("ignore_missing_eof", .bool lets)] fun _ => none) = m0 at S1
  have m1 : m0 "tagger" = some (.ref tl) := by rw [← hm0]; kernel_rfl
  have m2 : m0 "ignore_missing_eof" = some (.bool lets) := by rw [← hm0]; kernel_rfl
  have fr' : (A.deeper (denv w L)).frames = some (denv w L :: outer) := Around.frames_deeper hfr
  refine load_01 T S1.f2.tail_swap ht fun f1 f2 ps' h2 tk2 R2 k2 ht2 S2 hf1 hf2 => ?_
  -- sections, section, eof
  refine wpAny_execs_cons ?_
  refine wpAny_Assign_Name ?_
  refine wpAny_Dict_empty ?_
  have S3 := (S2.push (o := { cls := .type "dict", data := .dict #[] }) (P := DiO w []) DiO.new).f2
  refine st_local S3 rfl (by kernel_rfl) (fun h4 tk4 S4 _ => ?_) (by kernel_rfl)
  refine wpAny_execs_cons ?_
  refine wpAny_Assign_Name ?_
  refine e_list ?_
  refine spl_nil ⟨by show 0 ≤ 1000; omega, h4, g, tk4, R2, _, rfl, S4, fun sl h5 S5 => ?_⟩
  refine st_cell (by kernel_rfl) (by kernel_rfl) (by kernel_rfl) S5.f4 fun h6 S6 => ?_
  refine wpAny_execs_cons ?_
  refine wpAny_Assign_Name ?_
  refine Constant_bool ?_
  refine st_local S6.f2 rfl (by kernel_rfl) (fun h7 tk7 S7 _ => ?_) (by kernel_rfl)
  -- the loop
  refine wpAny_execs_cons ?_
  refine wpAny_For ?_
  refine wpAny_Call_ofName ?_
  have T7 : Stat w mg mb R2 := T.up k2
  refine ld_global (T7.up S7.sub) (v := .ref 375) (by kernel_rfl) ?_ (by kernel_rfl) (by kernel_rfl) (by kernel_rfl)
  refine callWith_K T.K (by kernel_rfl) ?_
  refine spl_cons ?_
  refine ld_name S7 (dnames L) (by kernel_rfl) (v := .ref tl) (by rw [upd_ne (by decide), upd_ne (by decide), upd_ne (by decide), upd_ne (by decide)]; exact m1) ?_
  refine spl_nil ⟨KIn.up T7.K S7.sub, ?_⟩
  refine call_group (sc := 0) (o.less 60 (by decide) |> fun _ => od.less 60 (by decide)) T7 S7 (X.up k2) lenb (.inl ⟨rfl, rfl⟩) fun a h8 tk8 R8 Lg mgn gst k8 S8 hgen hrun hbare => ?_
  refine wpAny_pyIter_gen (hgen.keeps S8.sub) ?_
  have hne := emit_ne (sc := 0) ts none fun _ e => nomatch e
  have hokG := emit_ok (sc := 0) ts none hok fun _ e => nomatch e
  have hel := emit_len (sc := 0) ts none
  have qE : run lets (emit 0 none ts) [] [] false = none → RaisesTo w R2 L outer ((378, TabO ps') :: led) g dr os E := fun hres e h' tk' g' R' Y hs hX hfly hb =>
    qEx hres e h' tk' g' R' ps' Y _ (k2.trans hs) (ht2.up hs) hX hfly (fun a ha => .tail _ ha) hb
  have hO' : Outer outer ((378, TabO ps') :: led) := fun x hx => by
    obtain ⟨a1, L', m', a2, a3⟩ := hO x hx
    exact ⟨a1, L', m', a2, .tail _ a3⟩
  refine for_rule (fr := false) (V := TagsAt) (g₀ := g) (od.less 340 (by decide)) (Inv5 w R2 L f1 f2 lets ((378, TabO ps') :: led) (run lets (emit 0 none ts) [] [] false)) Inv5.up ?_ ?_ (ds := emit 0 none ts) (ld := [(Lg, NsO mgn)]) (T7.up k8) S8 (itr_gen hgen hrun) Array.getElem?_push_size ?_ fun b => b.push hbare
  · intro d ds v R9 led9 tail h9 g9 tk9 hI T9 S9 hv9 hb9
    refine wpAny_mono (load_turn (QF := fun _ _ => False) (od.less 400 (by decide)) hL fr' hO' hf1 hf2 qE hI T9 S9 hv9 hb9) (fun _ s₂ z => wpAny_mono z (fun f s₃ z => ?_) fun _ _ z => z) fun _ _ z => z
    cases f with
    | next => exact z
    | cont => exact z
    | brk => exact z.elim
    | ret v => exact z.elim
  · rintro R9 led9 h9 g9 tk9 ⟨h0, m, sl, xs, sec, dd, kvs, secs, e, rfl, ⟨n1, n2, n3, n4, n5⟩, hsec, hkv, hsne, hsok, hl1, hl2, _, _, hrun9⟩ T9 S9 hb9
    have rAny : ∀ (Y : Led) R10 h10 tk10 e10 h11 vs, Sub R9 R10 → St R10 Y h10 → (∀ p ∈ (378, TabO ps') :: led, p ∈ Y) → (∃ mm, (L, NsO mm) ∈ Y) → Heap.MadeExcOf h10 h11 e10 (.ref 44) vs → run lets (emit 0 none ts) [] [] false = none →
        wpAny (MD w) (A.deeper (denv w L)) (leaving (denv w L) (.ref e10)) (fun _ s'' => E (.ref e10) s'') (fun e' s'' => E e' s'') ⟨h11, g9, dr, tk10, os⟩ := by
      intro Y R10 h10 tk10 e10 h11 vs k10 S10 hX hLX hm10 hres
      obtain ⟨mm, hmm⟩ := hLX
      refine raise_leaves (m := mm) (outer := outer) S10 (by rw [(dnames (w := w) L).fn]; decide) rfl hmm (fun x hx => ?_) fr' hm10 fun h12 hfly => ?_
      · obtain ⟨a1, L', m', a2, a3⟩ := hO' x hx
        exact ⟨a1, L', m', a2, hX _ a3⟩
      · exact qE hres e10 h12 tk10 g9 R10 Y (h0.trans k10) hX hfly hb9
    refine wpAny_execs_cons ?_
    refine wpAny_If ?_
    refine e_inside (od.less 300 (by decide)) T9 S9 (dnames L) (by kernel_rfl) n1 (hf1.up h0) hsec hsne hsok (by simp at hl1; omega) fun h10 tk10 R10 k10 S10 => ?_
    split
    · next hi =>
      refine wpAny_execs_cons ?_
      refine raise_made (denv0 L) (by kernel_rfl) od.hd ((T9.up k10).up S10.sub) fun e11 h11 tk11 vs11 hm11 => ?_
      refine rAny _ R10 h10 tk11 e11 h11 vs11 k10 S10 (fun p hp => .tail _ (.tail _ (.tail _ (.tail _ hp)))) ⟨_, .head _⟩ hm11 ?_
      rw [← hrun9]; unfold run; rw [if_pos hi]
    · next hi =>
      refine wpAny_execs_nil ?_
      refine wpAny_execs_cons ?_
      refine wpAny_If ?_
      have fin : ∀ h12 tk12, St R10 ((L, NsO m) :: (L + 1, CeO (some (.ref sl))) :: (sl, LsO xs) :: (dd, DiO w kvs) :: (378, TabO ps') :: led) h12 → run lets (emit 0 none ts) [] [] false = some secs → Q (.ref dd) ⟨h12, g9, dr, tk12, os⟩ := by
        intro h12 tk12 S12 hres
        obtain ⟨R13, k13, S13, ⟨od13, ed13, hd13⟩, _⟩ := S12.f3.freezeHead
        have kk : Sub R R13 := k2.trans (h0.trans (k10.trans k13))
        exact qOk dd od13 kvs secs h12 tk12 g9 R13 ps' hres kk (ht2.up (h0.trans (k10.trans k13))) S13.tail.tail.tail ed13 n3.2 hd13 (hkv.mono fun _ _ => SecAt.up (k10.trans k13)) hb9
      have hins : insB sec = false := by cases z : insB sec with
        | true => exact absurd z hi
        | false => rfl
      refine isTrue_and ?_
      refine isTrue_not ?_
      refine wpAny_isTrue_value ?_
      refine ld_name S10 (dnames L) (by kernel_rfl) n4 ?_
      refine wpAny_truthy_bool ?_
      cases e with
      | true =>
        rw [if_neg (by decide)]
        rw [if_neg (by decide)]
        refine wpAny_execs_nil ?_
        refine wpAny_execs_cons ?_
        refine wpAny_Return_some ?_
        refine ld_name S10 (dnames L) (by kernel_rfl) n3.1 ?_
        refine fin h10 tk10 S10 ?_
        rw [← hrun9]; unfold run; rw [if_neg hi, if_neg (by simp)]
      | false =>
        rw [if_pos (by decide)]
        refine isTrue_and ?_
        refine isTrue_not ?_
        refine wpAny_isTrue_value ?_
        refine ld_name S10 (dnames L) (by kernel_rfl) n5 ?_
        refine wpAny_truthy_bool ?_
        cases lets with
        | true =>
          rw [if_neg (by decide)]
          rw [if_neg (by decide)]
          refine wpAny_execs_nil ?_
          refine wpAny_execs_cons ?_
          refine wpAny_Return_some ?_
          refine ld_name S10 (dnames L) (by kernel_rfl) n3.1 ?_
          refine fin h10 tk10 S10 ?_
          rw [← hrun9]; unfold run; rw [if_neg hi, if_neg (by simp)]
        | false =>
          rw [if_pos (by decide)]
          refine isTrue_and_nil ?_
          rw [if_pos rfl]
          refine wpAny_execs_cons ?_
          refine raise_made (denv0 L) (by kernel_rfl) od.hd ((T9.up k10).up S10.sub) fun e11 h11 tk11 vs11 hm11 => ?_
          refine rAny _ R10 h10 tk11 e11 h11 vs11 k10 S10 (fun p hp => .tail _ (.tail _ (.tail _ (.tail _ hp)))) ⟨_, .head _⟩ hm11 ?_
          rw [← hrun9]; unfold run; rw [if_neg hi, if_pos ⟨rfl, rfl⟩]
  · refine ⟨k8, _, sl, #[], [], _, [], [], false, rfl, ⟨?_, ?_, ?_, ?_, ?_⟩, .nil, .nil, (fun gp hgp => by cases hgp), (fun gp hgp => by cases hgp), ?_, ?_, hne, hokG, rfl⟩
    · rw [upd_ne (by decide), upd_ne (by decide), upd_ne (by decide)]; exact upd_self
    · rw [upd_ne (by decide), upd_ne (by decide)]; exact upd_self
    · exact ⟨by rw [upd_ne (by decide)]; exact upd_self, size_of_K (KIn.up T7.K S2.sub)⟩
    · exact upd_self
    · rw [upd_ne (by decide), upd_ne (by decide), upd_ne (by decide), upd_ne (by decide)]; exact m2
    · simp; omega
    · simp; omega
end
end Fw

namespace Fw
open PySem PySem.W PySem.W.X PyProof.Rows PySem.Spec PySem.Calls

section
variable {w : World} {mg mb : Str → Option Value} {A : Around} {E : Value → Shared → Prop} {R h : Heap} {g : Array GenState} {dr : Drawn} {tk : Nat} {os : OsState} {env : Env} {led rest : Led} {δ ε : Type}

def KeyV (secs : Secs) (_ : Heap) (v : Value) (sp : Str × List (List Pair)) : Prop := (∃ t, v = .str sp.1 t) ∧ sp ∈ secs
def KiO (d : Addr) (i n ep : Nat) (o : Obj) : Prop := o.cls = .type "dict_keyiterator" ∧ o.data = .fields #[.ref d, .int i 0, .int n 0, .int ep 0]
theorem All2.getL {α β : Type} {P : α → β → Prop} : ∀ {as : List α} {bs : List β}, All2 P as bs → ∀ {i : Nat} {a : α}, as[i]? = some a → ∃ b, bs[i]? = some b ∧ P a b
  | _, _, .cons x _, 0, _, e => by cases e; exact ⟨_, rfl, x⟩
  | _, _, .cons _ r, i + 1, _, e => r.getL (i := i) (by simpa using e)

theorem itr_dict {it d : Addr} {kvs : List (Str × Value)} {secs : Secs} {ep : Nat} (hk : All2 (fun (kv : Str × Value) (sp : Str × List (List Pair)) => kv.1 = sp.1) kvs secs) : ∀ {ds : Secs} {i : Nat} {R : Heap}, secs.drop i = ds → R.DictAt (strKind PG w) d kvs ep →
    Itr w mg mb true (KeyV secs) (.ref it) ds R [(it, KiO d i kvs.length ep)] fun _ => True
  | [], i, R, hd, hm => fun A R2 rest h g dr tk os Q E oA k T S _ q => by
    obtain ⟨o, e, c1, c2⟩ := S.head
    have hle : kvs.length ≤ i := by rw [hk.length]; exact List.drop_eq_nil_iff.mp hd
    refine wpAny_pyNext_dict_end (knd := strKind PG w) (i := i) (ep := ep) oA.hd ⟨o, e, c1, c2⟩ ((hm.keep k).keep S.sub) (by simpa using hle) fun h₁ hs => ?_
    exact q h₁ tk R2 g (Sub.refl _) (S.dropHead hs) .refl
  | sp :: ds, i, R, hd, hm => fun A R2 rest h g dr tk os Q E oA k T S _ q => by
    obtain ⟨o, e, c1, c2⟩ := S.head
    have hsi : secs[i]? = some sp := by
      have := congrArg List.head? hd
      rwa [List.head?_drop] at this
    have hdr : secs.drop (i + 1) = ds := by rw [← List.drop_drop, hd]; rfl
    obtain ⟨⟨k1, v1⟩, hkv, hkk⟩ := hk.get hsi
    refine wpAny_pyNext_dict_item (knd := strKind PG w) (i := i) (ep := ep) ⟨o, e, c1, c2⟩ ((hm.keep k).keep S.sub) hkv fun key h₁ hkey hit hs => ?_
    obtain ⟨t, rfl⟩ := Value.isStrOf_shape hkey
    obtain ⟨o1, e1, a1, b1⟩ := hit
    have S1 := S.ch (P' := KiO d (i + 1) kvs.length ep) hs.extBut ⟨o1, e1, a1, b1⟩
    exact q _ h₁ tk R2 g [(it, KiO d (i + 1) kvs.length ep)] _ (Sub.refl _) S1 .refl ⟨⟨t, by rw [← hkk]⟩, List.mem_of_getElem? hsi⟩ trivial (fun _ _ => trivial) (NoOwn.of e1 a1 (by decide)) (itr_dict hk hdr (hm.keep k))
theorem self_dict {it d : Addr} {i n ep : Nat} : Self w (.ref it) R [(it, KiO d i n ep)] := fun A R2 rest h g dr tk os Q E k S q => by
  obtain ⟨o, e, c1, c2⟩ := S.head
  exact wpAny_pyIter_keyiter ⟨o, e, c1, c2⟩ q

theorem All2.imp {α β : Type} {P Q : α → β → Prop} (k : ∀ a b, P a b → Q a b) : ∀ {as : List α} {bs : List β}, All2 P as bs → All2 Q as bs := All2.mono k

/-- a frozen dict of sections, reached by its key iterator -/
theorem src_dict {W : Heap → Value → ε → Prop} {F : (Str × List (List Pair)) → Option ε} {elt target : Expr} {ifs : List Expr} {cenv : Addr → Env} {D : Bool → Heap → Heap → Array GenState → List ε → Prop} {d : Addr} {od : Obj} {kvs : List (Str × Value)} {secs : Secs}
    (T : Stat w mg mb R) (S : St R rest h) (ed : R.get? d = some od) (hd : DiO w kvs od) (hk : All2 (SecAt R) kvs secs) (hds : d ≠ sysModules) (hlen : secs.length ≤ 1000) (turn : Turn w mg mb A dr os (KeyV secs) W F elt target ifs cenv R) (q : ∀ h', D true R h' g (secs.filterMap F)) :
    wpAny (MD w) A (pyIter (.ref d)) (Src w mg mb A dr os (KeyV secs) W F elt target ifs cenv rest D) E ⟨h, g, dr, tk, os⟩ := by
  obtain ⟨ep, hm⟩ : ∃ ep, R.DictAt (strKind PG w) d kvs ep := Heap.DictOf.dictAt (DiO.dictOf ⟨od, ed, hd⟩)
  refine wpAny_pyIter_dict (by simpa using hds) (hm.keep S.sub) ?_
  exact ⟨true, secs, R, [(_, KiO d 0 kvs.length ep)], fun _ => True, _, g, tk, rfl, T, S.push (o := { cls := .type "dict_keyiterator", data := .fields #[.ref d, .int 0 0, .int kvs.length 0, .int ep 0] }) (P := KiO d 0 kvs.length ep) ⟨rfl, rfl⟩, self_dict, itr_dict (hk.mono fun _ _ z => z.1) (by rw [List.drop_zero]) hm, trivial, hlen, turn, q _⟩

/-- the value under a name of the dict -/
theorem value_at {kvs : List (Str × Value)} {secs : Secs} (hk : All2 (SecAt R) kvs secs) (nd : (kvs.map (·.1)).Nodup) {sp : Str × List (List Pair)} (hs : sp ∈ secs) : ∃ v, valueAt kvs sp.1 = some v ∧ ListAt TagsAt R v sp.2 := by
  induction hk with
  | nil => cases hs
  | @cons kv sp' as bs a r ih =>
    rw [List.map_cons, List.nodup_cons] at nd
    rcases List.mem_cons.mp hs with rfl | hs
    · refine ⟨kv.2, ?_, a.2⟩
      unfold valueAt
      rw [List.find?_cons_of_pos (by simpa using a.1)]; rfl
    · obtain ⟨v, e, l⟩ := ih nd.2 hs
      refine ⟨v, ?_, l⟩
      have hne : ¬ kv.1 = sp.1 := fun z => by
        obtain ⟨i, hi⟩ := List.getElem?_of_mem hs
        obtain ⟨kv2, hkv2, hP⟩ := r.get hi
        exact nd.1 (List.mem_map.mpr ⟨kv2, List.mem_of_getElem? hkv2, by rw [z]; exact hP.1⟩)
      unfold valueAt at e ⊢
      rw [List.find?_cons_of_neg (by simpa using hne)]; exact e
end
end Fw

namespace Fw
open PySem PySem.W PySem.W.X PyProof.Rows PySem.Spec PySem.Calls

theorem bindsK {w : World} {h : Heap} {g : Array GenState} {dr : Drawn} {tk : Nat} {os : OsState} {fd : FuncData} {args : Args} {binds : List (Str × Value)} (Xh : (KF w).In h) (e : ∀ S, peek (KF w) S (bindArgs fd args) = some binds) : BindsTo ⟨h, g, dr, tk, os⟩ fd args binds := kp_binds (s := ⟨h, g, dr, tk, os⟩) Xh e
theorem put_mem {β : Type} {l : List (Str × β)} {n : Str} {v : β} {x : Str × β} (h : x ∈ put l n v) : x ∈ l ∨ x.2 = v := by
  unfold put at h
  split at h
  · obtain ⟨y, hy, e⟩ := List.mem_map.mp h
    split at e
    · subst e; exact .inr rfl
    · subst e; exact .inl hy
  · rcases List.mem_append.mp h with h | h
    · exact .inl h
    · cases List.mem_singleton.mp h; exact .inr rfl
/-- what the sections of a result are made of -/
theorem run_all {P : List (List Pair) → Prop} {lets : Bool} {res : Secs} (hP : ∀ sec g, P sec → P (sec ++ [g])) (hN : ∀ g, P [g]) (h0 : P []) : ∀ (gs : List (List Pair)) (secs : Secs) (sec : List (List Pair)) (e : Bool), (∀ sp ∈ secs, P sp.2) → P sec → run lets gs secs sec e = some res → ∀ sp ∈ res, P sp.2
  | [], secs, sec, e, hs, hc, h => by
    unfold run at h
    split at h
    · cases h
    · split at h
      · cases h
      · cases h; exact hs
  | g :: gs, secs, sec, e, hs, hc, h => by
    rw [run_cons] at h
    split at h
    · split at h
      · cases h
      · exact run_all hP hN h0 gs secs [g] e hs (hN g) h
    · split at h
      · split at h
        · split at h
          · refine run_all hP hN h0 gs _ [] e (fun sp hsp => ?_) h0 h
            rcases put_mem hsp with z | z
            · exact hs sp z
            · rw [z]; exact hc
          · cases h
        · cases h
      · split at h
        · exact run_all hP hN h0 gs secs sec true hs hc h
        · exact run_all hP hN h0 gs secs (sec ++ [g]) e hs (hP sec g hc) h
theorem run_ok {lets : Bool} {res : Secs} : ∀ (gs : List (List Pair)) (secs : Secs) (sec : List (List Pair)) (e : Bool), OkG gs → (∀ sp ∈ secs, OkG sp.2) → OkG sec → (∀ sp ∈ secs, PyData.strOk sp.1 = true) → run lets gs secs sec e = some res → ∀ sp ∈ res, OkG sp.2 ∧ PyData.strOk sp.1 = true
  | [], secs, sec, e, hg, hs, hc, hn, h => by
    unfold run at h
    split at h
    · cases h
    · split at h
      · cases h
      · cases h; exact fun sp hsp => ⟨hs sp hsp, hn sp hsp⟩
  | g :: gs, secs, sec, e, hg, hs, hc, hn, h => by
    have hg' : OkG gs := fun x hx => hg x (.tail _ hx)
    rw [run_cons] at h
    split at h
    · split at h
      · cases h
      · exact run_ok gs secs [g] e hg' hs (fun x hx => by cases List.mem_singleton.mp hx; exact hg _ (.head _)) hn h
    · split at h
      · split at h
        · split at h
          · next n hname =>
            refine run_ok gs _ [] e hg' (fun sp hsp => ?_) (fun x hx => nomatch hx) (fun sp hsp => ?_) h
            · rcases put_mem hsp with z | z
              · exact hs sp z
              · rw [z]; exact hc
            · have hno : PyData.strOk n = true := by
                unfold secName at hname
                split at hname
                · next q0 p1 r sr =>
                  split at hname
                  · cases hname
                    exact hc _ (.head _) _ (.tail _ (.head _))
                  · cases hname
                · cases hname
              unfold put at hsp
              split at hsp
              · obtain ⟨y, hy, e2⟩ := List.mem_map.mp hsp
                split at e2
                · subst e2; exact hn y hy
                · subst e2; exact hn y hy
              · rcases List.mem_append.mp hsp with z | z
                · exact hn sp z
                · cases List.mem_singleton.mp z; exact hno
          · cases h
        · cases h
      · split at h
        · exact run_ok gs secs sec true hg' hs hc hn h
        · exact run_ok gs secs (sec ++ [g]) e hg' hs (fun x hx => by
            rcases List.mem_append.mp hx with z | z
            · exact hc x z
            · cases List.mem_singleton.mp z; exact hg _ (.head _)) hn h
theorem run_len {lets : Bool} {res : Secs} {B : Nat} : ∀ (gs : List (List Pair)) (secs : Secs) (sec : List (List Pair)) (e : Bool), (∀ sp ∈ secs, sp.2.length ≤ B) → sec.length + gs.length ≤ B → secs.length + gs.length ≤ B → run lets gs secs sec e = some res → (∀ sp ∈ res, sp.2.length ≤ B) ∧ res.length ≤ B
  | [], secs, sec, e, hs, hc, hl, h => by
    unfold run at h
    split at h
    · cases h
    · split at h
      · cases h
      · cases h; exact ⟨hs, by simpa using hl⟩
  | g :: gs, secs, sec, e, hs, hc, hl, h => by
    rw [List.length_cons] at hc hl
    rw [run_cons] at h
    split at h
    · split at h
      · cases h
      · exact run_len gs secs [g] e hs (by simp; omega) (by omega) h
    · split at h
      · split at h
        · split at h
          · next n hname =>
            refine run_len gs _ [] e (fun sp hsp => ?_) (by simp; omega) ?_ h
            · rcases put_mem hsp with z | z
              · exact hs sp z
              · rw [z]; omega
            · have := put_length secs n sec; omega
          · cases h
        · cases h
      · split at h
        · exact run_len gs secs sec true hs (by omega) (by omega) h
        · exact run_len gs secs (sec ++ [g]) e hs (by simp; omega) (by omega) h

def dSec (sp : Str × List (List Pair)) : PyData := .tuple [.str sp.1, dGrps sp.2]
def dRes : Option Secs → PyData
  | none => .none
  | some secs => .list (secs.map dSec)
end Fw

namespace Fw
open PySem PySem.W PySem.W.X PyProof.Rows PySem.Spec PySem.Calls

section
variable {w : World} {mg mb : Str → Option Value} {A : Around} {E : Value → Shared → Prop} {R h : Heap} {g : Array GenState} {dr : Drawn} {tk : Nat} {os : OsState} {env : Env} {led rest : Led} {δ ε : Type}

noncomputable abbrev tenv (w : World) (L : Addr) : Env := envAt w 395 L
theorem tnames (L : Addr) : Names (tenv w L) L := ⟨rfl, by kernel_rfl, by kernel_rfl⟩
theorem tenv0 (L : Addr) : Env0 (tenv w L) := ⟨by kernel_rfl, by kernel_rfl, by kernel_rfl⟩
noncomputable def tst (w : World) (k : Nat) : Stmt := ((stmtsOf (fnAt w 395).body).drop k).headD default
def toldScope : Scope := { kind := .function, names := [(".0", .local), ("name", .local), ("told", .free)], isGenerator := false, isCoroutine := false }
def SecD (R : Heap) (v : Value) (sp : Str × List (List Pair)) : Prop := Rd R v (dSec sp)
theorem secD_mono : ∀ R R' v d, Sub R R' → SecD R v d → SecD R' v d := fun _ _ _ _ k x => Rd.up k x

/-- the turn of told's comprehension over the dict -/
theorem turn_told {L d : Addr} {od : Obj} {kvs : List (Str × Value)} {secs : Secs} {p1 p2 p3 p4 p5 p6 p7 p8 p9 q1 q2 q3 q4 q5 q6 q7 : Pos} {x1 x2} (o : Aok 340 A) (hc : R.IsCell (L + 1) (some (.ref d))) (ed : R.get? d = some od) (hd : DiO w kvs od) (hk : All2 (SecAt R) kvs secs) (hlen : ∀ sp ∈ secs, sp.2.length ≤ 1000) :
    Turn w mg mb A dr os (KeyV secs) SecD some
      (.Tuple [.Name "name" q1, .ListComp (.ListComp (.Tuple [.Attribute (.Name "tag" p1) "code" p2, .Attribute (.Name "tag" p3) "value" p4] x1 p5) [⟨.Name "tag" p6, .Name "group" p7, [], 0⟩] tagsScope p8) [⟨.Name "group" p9, .Subscript (.Name "told" q2) (.Name "name" q3) q4, [], 0⟩] groupScope q5] x2 q6)
      (.Name "name" q7) [] (fun D => compEnvC toldScope [("told", L + 1)] D (tenv w L)) R := by
  intro D sp v R' m tail h g tk E' kk T S hv
  obtain ⟨⟨t, rfl⟩, hsp⟩ := hv
  have n : Names (compEnvC toldScope [("told", L + 1)] D (tenv w L)) D := ⟨rfl, (tenv0 (w := w) L).glo, rfl⟩
  have n0 : Env0 (compEnvC toldScope [("told", L + 1)] D (tenv w L)) := (tenv0 (w := w) L).comp rfl
  refine st_name S n (by kernel_rfl) fun h₁ tk₁ S1 => ?_
  refine wpAny_tests_nil ⟨rfl, ?_⟩
  refine e_tuple ?_
  refine spl_cons ?_
  refine ld_name S1 n (by kernel_rfl) upd_self ?_
  refine spl_cons ?_
  refine comp_eval (mg := mg) (mb := mb) (rest := (D, NsO (upd m "name" (.str sp.1 t))) :: tail) TagsAt GrpAt (fun gp => some (gp.filterMap some)) grp_mono [] o (by rfl) rfl (by rfl) ?_
  refine sub_rule ?_
  refine ld_cell rfl (by kernel_rfl) (c := L + 1) rfl ((hc.keeps kk).keeps S1.sub) ?_
  refine ld_name S1 n (by kernel_rfl) upd_self ?_
  have hdo : h₁.DictOf (strKind PG w) d kvs := DiO.dictOf ⟨od, S1.sub _ _ (kk _ _ ed), hd⟩
  obtain ⟨_, _, _, _, _, nd⟩ := id hd
  obtain ⟨u, hu, hul⟩ := value_at hk (by obtain ⟨_, _, _, _, _, _, z⟩ := id hd; exact z) hsp
  refine ⟨"dict", _, F.slot_dict_getitem.lookup, hdo.typeIs, wpAny_getItem_of (knd := strKind PG w) (k := sp.1) (by simp [PySem.strKind, Value.isStrOf]) hdo.mapOf hu ?_⟩
  refine src_list tags_mono T S1 (hul.up tags_mono kk) (hlen sp hsp) (turn_pairs n0 o) fun h2 => ?_
  intro v3 R3 h3 g3 tk3 k3 S3 hv3 hb3
  obtain rfl := hb3.2 rfl
  rw [map_fm_id] at hv3
  refine spl_nil ⟨by show 2 ≤ 1000; omega, h3, g3, tk3, R3, _, rfl, S3, fun a h4 R4 k4 S4 e4 => ?_⟩
  refine ⟨h4, tk3, R4, _, rfl, k3.trans k4, S4, ?_⟩
  obtain ⟨as, ra⟩ := (rd_grps hv3).up k4
  exact ⟨_, Reads.tuple e4 rfl rfl (.cons (.str _ _) (.cons ra .nil))⟩

theorem caught {L e : Addr} {F : List Addr} {outer : List Env} {np pos : Pos} {Q : Flow → Shared → Prop} {X : Led} {b₀ : Stmt} {rest : List ExceptHandler} (T : Stat w mg mb R) (e0 : Env0 env) (hx : env.kindOf "DXFStructureError" = some .globalImplicit) (hf : env.frame = some L) (hfr : A.frames = some (env :: outer)) (hLF : L ∈ F)
    (hfly : FlyS R X F (env :: outer) e h)
    (q : ∀ h', St R X h' → wpAny (MD w) (A.mark (some (.ref e))) (execs [b₀] env) Q (notedBy (MD w) (A.mark (some (.ref e))) env fun x s₂ => cameBackBy (MD w) A env E x s₂) ⟨h', g, dr, tk, os⟩) :
    wpAny (MD w) A (noteFrame (.ref e) env) (fun _ s₂ => wpAny (MD w) A (setFlight (.ref e) none) (fun _ s₃ => wpAny (MD w) A (handleBy (.ref e) env (.ExceptHandler (some (.Name "DXFStructureError" np)) none [b₀] pos :: rest)) Q E s₃) E s₂) E ⟨h, g, dr, tk, os⟩ := by
  obtain ⟨h0, a0, S0, hF, hfl, hu⟩ := hfly.ex
  refine wpAny_looks_onW hfr hf hfl fun h1 hh1 hu1 => ?_
  refine wpAny_landsW hh1 fun h2 hfl2 hu2 => ?_
  have S2 : St R X h2 := fly_st S0 hF hfl2.1 ((hu.trans hu1).trans hu2)
  have T2 : Stat w mg mb h2 := T.up S2.sub
  refine wpAny_handleBy_cons (codeAny_handlers_test ?_) (by intro q; cases q)
  refine ld_global T2 (v := .ref 44) (by kernel_rfl) ?_ e0.glo e0.fn hx
  obtain ⟨tl, N, nm, qn, bs, hdct, sn, sub, ab, col, dd, k0, k1, k2, k3, k5, mN, hC, hN, hni, TL⟩ := T2.own.obj
  obtain ⟨ob, hob, hobc⟩ := hfl2.there
  refine wpAny_excMatches_sub_self hC hob hobc (TL.hasType PySem.F.excBase_Exception.hasBase) (codeAny_handlers_suite ?_)
  refine lands_againW hfl2 fun h3 hfl3 hu3 => ?_
  exact q h3 (fly_st S0 hF hfl3.1 (((hu.trans hu1).trans hu2).trans hu3))
end
end Fw

namespace Fw
open PySem PySem.W PySem.W.X PyProof.Rows PySem.Spec PySem.Calls

section
variable {w : World} {mg mb : Str → Option Value} {A : Around} {E : Value → Shared → Prop} {R h : Heap} {g : Array GenState} {dr : Drawn} {tk : Nat} {os : OsState} {env : Env} {led rest : Led} {δ ε : Type}

noncomputable def tbody (w : World) : List Stmt := stmtsOf (fnAt w 395).body
theorem tbody_eq : (fnAt w 395).body = .stmts (tbody w) := by with_unfolding_all rfl

set_option maxHeartbeats 4000000 in
theorem told_call {pv : Value} {pairs : List Pair} {lets : Bool} {ps : Array Value} {outer : List Env} {Q : Value → Shared → Prop} (o : Aok 500 A) (T : Stat w mg mb R) (S : St R ((378, TabO ps) :: led) h) (ht : Tab2 w R ps) (hps : ListAt PairAt R pv pairs) (lenb : pairs.length ≤ 100) (hok : OkP pairs)
    (hfr : A.frames = some outer) (hO : Outer outer led)
    (q : ∀ v h' tk' g' R' ps', Sub R R' → Tab2 w R' ps' → St R' ((378, TabO ps') :: led) h' → Rd R' v (dRes (run lets (emit 0 none pairs) [] [] false)) → (AllBare g → AllBare g') → Q v ⟨h', g', dr, tk', os⟩) :
    wpAny (MD w) A (PySem.call (.ref 395) [pv, .bool lets]) Q E ⟨h, g, dr, tk, os⟩ := by
  have Xh : (KF w).In h := KIn.up T.K S.sub
  obtain ⟨vals, hvals⟩ : ∃ vals : List Value, vals = [pv, .bool lets] := ⟨_, rfl⟩
  rw [← hvals]
  have hb : BindsTo ⟨h, g, dr, tk, os⟩ (fnAt w 395) ⟨vals, []⟩ [("pairs", pv), ("lets", .bool lets)] := by
    rw [hvals]; exact @bindsK w h g dr tk os (fnAt w 395) _ _ Xh (fun S => by kernel_rfl)
  refine callKB (n := 480) (binds := [("pairs", pv), ("lets", .bool lets)]) (o.less 500 (by decide)) (T.up S.sub) (by kernel_rfl) (by kernel_rfl) tbody_eq hb (by kernel_rfl) (by kernel_rfl) (by kernel_rfl) (by kernel_rfl) (by kernel_rfl) ?_
  intro h₁ tk₁ L hsz k₁ hn hnone hcells od
  obtain ⟨hce, hcn⟩ := hcells "told" (L + 1) (by kernel_rfl)
  obtain ⟨oce, ece, qce⟩ := hce
  have hce' : ∃ o, h₁.get? (L + 1) = some o ∧ CeO none o := ⟨oce, ece, qce⟩
  obtain ⟨oL, eL, qL⟩ := NsO.of hn
  have S1 : St R ((L + 1, CeO none) :: (L, NsO _) :: (378, TabO ps) :: led) h₁ := St.addMany k₁ (new := [(L + 1, CeO none), (L, NsO _)]) (fun p hp => by
    rcases List.mem_cons.mp hp with rfl | hp
    · exact ⟨hce', hcn⟩
    · cases List.mem_singleton.mp hp
      exact ⟨⟨oL, eL, qL⟩, hnone⟩) (by simp) S
  generalize hm0 : (bindL (envAt w 395 L).kindOf [(("pairs" : Str), pv), ("lets", .bool lets)] fun _ => none) = m0 at S1
  have m1 : m0 "pairs" = some pv := by rw [← hm0]; kernel_rfl
  have m2 : m0 "lets" = some (.bool lets) := by rw [← hm0]; kernel_rfl
  have fr' : (A.deeper (tenv w L)).frames = some (tenv w L :: outer) := Around.frames_deeper hfr
  refine wpAny_execs_cons ?_
  refine wpAny_Try_except ?_
  refine wpAny_execs_cons ?_
  refine comp_assign (mg := mg) (mb := mb) (L := L) (m := m0) (rest := (L + 1, CeO none) :: (378, TabO ps) :: led) PairAt TagAt some tag_mono [] (od.less 340 (by decide)) (by kernel_rfl) (by rfl) (by rfl) (by rfl) (by kernel_rfl) rfl (by kernel_rfl) ?_
  refine ld_name S1.f1 (tnames L) (by kernel_rfl) m1 ?_
  refine src_list pair_mono T S1.f1 hps (by omega) (turn_tagE (tenv0 L) (od.less 120 (by decide))) fun h2 => ?_
  intro v3 R3 h3 g3 tk3 k3 S3 hv3 hb3
  obtain rfl := hb3.2 rfl
  rw [filterMap_id] at hv3
  obtain ⟨tl, rfl, X⟩ := TagsL.ofList hv3
  refine wpAny_execs_cons ?_
  refine wpAny_Assign_Name ?_
  refine IfExp_ ?_
  refine wpAny_isTrue_value ?_
  refine ld_name S3 (tnames L) (by kernel_rfl) (v := .bool lets) ((upd_ne (by decide)).trans m2) ?_
  refine wpAny_truthy_bool ?_
  have hOt : Outer (tenv w L :: outer) ((L, NsO (upd m0 "tags" (.ref tl))) :: (L + 1, CeO none) :: led) := fun x hx => by
    rcases List.mem_cons.mp hx with rfl | hx
    · exact ⟨by rw [(tnames (w := w) L).fn]; decide, L, _, rfl, .head _⟩
    · obtain ⟨a1, L', m', a2, a3⟩ := hO x hx
      exact ⟨a1, L', m', a2, .tail _ (.tail _ a3)⟩
  cases lets with
  | false =>
    rw [if_neg (by decide)]
    refine wpAny_Call_ofName ?_
    refine ld_global ((T.up k3).up S3.sub) (v := .ref 383) (by kernel_rfl) ?_ (by kernel_rfl) (by kernel_rfl) (by kernel_rfl)
    refine callWith_K T.K (by kernel_rfl) ?_
    refine spl_cons ?_
    refine ld_name S3 (tnames L) (by kernel_rfl) upd_self ?_
    refine spl_nil ⟨KIn.up T.K (k3.trans S3.sub), ?_⟩
    refine load_call (lets := false) (outer := tenv w L :: outer) (od.less 460 (by decide)) (T.up k3) S3.f2 (ht.up k3) X lenb hok fr' hOt (.inl ⟨rfl, rfl⟩) ?_ ?_
    · intro d okv kvs secs h5 tk5 g5 R5 ps5 hrun k5 ht5 S5 ed hd405 hdd hkv hb5
      refine st_cell (by kernel_rfl) (by kernel_rfl) (by kernel_rfl) S5.f2 fun h6 S6 => ?_
      obtain ⟨R7, k7, S7, ⟨oc, ec, hoc⟩, _⟩ := S6.freezeHead
      refine wpAny_execs_nil ?_
      refine wpAny_execs_nil ?_
      refine wpAny_execs_cons ?_
      refine wpAny_Return_some ?_
      obtain ⟨hl1, hl2⟩ := run_len (B := 900) _ _ _ _ (fun sp hsp => by cases hsp) (by have := emit_len (sc := 0) pairs none; simp; omega) (by have := emit_len (sc := 0) pairs none; simp; omega) hrun
      have T7 : Stat w mg mb R7 := T.up (k3.trans (k5.trans k7))
      have hc7 : R7.IsCell (L + 1) (some (.ref d)) := ⟨oc, ec, hoc⟩
      have hkv7 : All2 (SecAt R7) kvs secs := hkv.mono fun _ _ => SecAt.up k7
      refine comp_eval (mg := mg) (mb := mb) (rest := (378, TabO ps5) :: (L, NsO (upd m0 "tags" (.ref tl))) :: led) (KeyV secs) SecD some secD_mono [("told", L + 1)] (od.less 340 (by decide)) (by kernel_rfl) (by rfl) (by rfl) ?_
      refine ld_cell (by kernel_rfl) (by kernel_rfl) (c := L + 1) (by kernel_rfl) (hc7.keeps S7.sub) ?_
      refine src_dict T7 S7 (k7 _ _ ed) hdd hkv7 ?_ (by omega) (turn_told (od.less 340 (by decide)) hc7 (k7 _ _ ed) hdd hkv7 fun sp hsp => Nat.le_trans (hl1 sp hsp) (by decide)) fun h8 => ?_
      · intro z; rw [z] at hd405; exact absurd hd405 (by decide)
      · intro v9 R9 h9 g9 tk9 k9 S9 hv9 hb9
        obtain rfl := hb9.2 rfl
        rw [filterMap_id] at hv9
        refine q v9 h9 tk9 _ R9 ps5 (k3.trans (k5.trans (k7.trans k9))) ((ht5.up k7).up k9) S9.tail2 ?_ hb5
        rw [hrun]
        exact rd_list (enc := dSec) (fun _ _ z => z) hv9
    · intro hrun e h5 tk5 g5 R5 ps5 Y F k5 ht5 hY hfly hF hb5
      refine caught (T.up (k3.trans k5)) (tenv0 L) (by kernel_rfl) rfl fr' (hF L (.head _)) hfly fun h6 S6 => ?_
      refine wpAny_execs_cons ?_
      refine wpAny_Return_some ?_
      refine Constant_none ?_
      have S7 : St R5 ((378, TabO ps5) :: led) h6 := S6.sub_led (fun p hp => hY p (by
        rcases List.mem_cons.mp hp with rfl | hp
        · exact .head _
        · exact .tail _ (.tail _ (.tail _ hp)))) S.nd
      refine q .none h6 tk5 g5 R5 ps5 (k3.trans k5) ht5 S7 ?_ hb5
      rw [hrun]
      exact ⟨_, Reads.none⟩
  | true =>
    rw [if_pos rfl]
    refine wpAny_Call_ofName ?_
    refine ld_global ((T.up k3).up S3.sub) (v := .ref 383) (by kernel_rfl) ?_ (by kernel_rfl) (by kernel_rfl) (by kernel_rfl)
    refine callWith_K T.K (by kernel_rfl) ?_
    refine spl_cons ?_
    refine ld_name S3 (tnames L) (by kernel_rfl) upd_self ?_
    refine spl_cons ?_
    refine Constant_bool ?_
    refine spl_nil ⟨KIn.up T.K (k3.trans S3.sub), ?_⟩
    refine load_call (lets := true) (outer := tenv w L :: outer) (od.less 460 (by decide)) (T.up k3) S3.f2 (ht.up k3) X lenb hok fr' hOt (.inr ⟨rfl, rfl⟩) ?_ ?_
    · intro d okv kvs secs h5 tk5 g5 R5 ps5 hrun k5 ht5 S5 ed hd405 hdd hkv hb5
      refine st_cell (by kernel_rfl) (by kernel_rfl) (by kernel_rfl) S5.f2 fun h6 S6 => ?_
      obtain ⟨R7, k7, S7, ⟨oc, ec, hoc⟩, _⟩ := S6.freezeHead
      refine wpAny_execs_nil ?_
      refine wpAny_execs_nil ?_
      refine wpAny_execs_cons ?_
      refine wpAny_Return_some ?_
      obtain ⟨hl1, hl2⟩ := run_len (B := 900) _ _ _ _ (fun sp hsp => by cases hsp) (by have := emit_len (sc := 0) pairs none; simp; omega) (by have := emit_len (sc := 0) pairs none; simp; omega) hrun
      have T7 : Stat w mg mb R7 := T.up (k3.trans (k5.trans k7))
      have hc7 : R7.IsCell (L + 1) (some (.ref d)) := ⟨oc, ec, hoc⟩
      have hkv7 : All2 (SecAt R7) kvs secs := hkv.mono fun _ _ => SecAt.up k7
      refine comp_eval (mg := mg) (mb := mb) (rest := (378, TabO ps5) :: (L, NsO (upd m0 "tags" (.ref tl))) :: led) (KeyV secs) SecD some secD_mono [("told", L + 1)] (od.less 340 (by decide)) (by kernel_rfl) (by rfl) (by rfl) ?_
      refine ld_cell (by kernel_rfl) (by kernel_rfl) (c := L + 1) (by kernel_rfl) (hc7.keeps S7.sub) ?_
      refine src_dict T7 S7 (k7 _ _ ed) hdd hkv7 ?_ (by omega) (turn_told (od.less 340 (by decide)) hc7 (k7 _ _ ed) hdd hkv7 fun sp hsp => Nat.le_trans (hl1 sp hsp) (by decide)) fun h8 => ?_
      · intro z; rw [z] at hd405; exact absurd hd405 (by decide)
      · intro v9 R9 h9 g9 tk9 k9 S9 hv9 hb9
        obtain rfl := hb9.2 rfl
        rw [filterMap_id] at hv9
        refine q v9 h9 tk9 _ R9 ps5 (k3.trans (k5.trans (k7.trans k9))) ((ht5.up k7).up k9) S9.tail2 ?_ hb5
        rw [hrun]
        exact rd_list (enc := dSec) (fun _ _ z => z) hv9
    · intro hrun e h5 tk5 g5 R5 ps5 Y F k5 ht5 hY hfly hF hb5
      refine caught (T.up (k3.trans k5)) (tenv0 L) (by kernel_rfl) rfl fr' (hF L (.head _)) hfly fun h6 S6 => ?_
      refine wpAny_execs_cons ?_
      refine wpAny_Return_some ?_
      refine Constant_none ?_
      have S7 : St R5 ((378, TabO ps5) :: led) h6 := S6.sub_led (fun p hp => hY p (by
        rcases List.mem_cons.mp hp with rfl | hp
        · exact .head _
        · exact .tail _ (.tail _ (.tail _ hp)))) S.nd
      refine q .none h6 tk5 g5 R5 ps5 (k3.trans k5) ht5 S7 ?_ hb5
      rw [hrun]
      exact ⟨_, Reads.none⟩
end
end Fw

namespace Fw
open PySem PySem.W PySem.W.X PyProof.Rows PySem.Spec PySem.Calls

section
variable {w : World} {mg mb : Str → Option Value} {A : Around} {E : Value → Shared → Prop} {R h : Heap} {g : Array GenState} {dr : Drawn} {tk : Nat} {os : OsState} {env : Env} {led rest : Led} {δ ε : Type}

noncomputable abbrev uenv (w : World) (L : Addr) : Env := envAt w 400 L
theorem unames (L : Addr) : Names (uenv w L) L := ⟨rfl, by kernel_rfl, by kernel_rfl⟩
theorem uenv0 (L : Addr) : Env0 (uenv w L) := ⟨by kernel_rfl, by kernel_rfl, by kernel_rfl⟩
noncomputable def ubody (w : World) : List Stmt := stmtsOf (fnAt w 400).body
noncomputable def ust (w : World) (k : Nat) : Stmt := ((ubody w).drop k).headD default
theorem ubody_eq : (fnAt w 400).body = .stmts (ubody w) := by with_unfolding_all rfl

/-- `group[0] == (0, X)` for a plain group -/
theorem e_hdIs {L : Addr} {m : Str → Option Value} {p : Pair} {ps : List Pair} {gv : Value} {x : Str} {p1 p2 p3 p4 p5 p6 p7 : Pos} {k1 k2 k3 : Nat} {x1} {Q : Bool → Shared → Prop} (o : Aok 100 A) (S : St R ((L, NsO m) :: led) h) (n : Names env L)
    (hx : env.kindOf "group" = some .local) (hm : m "group" = some gv) (hg : GrpAt R gv (p :: ps)) (ok : PyData.strOk p.2 = true) (okx : PyData.strOk x = true)
    (q : ∀ h' tk' R', Sub R R' → St R' ((L, NsO m) :: led) h' → Q (isHd (p :: ps) x) ⟨h', g, dr, tk', os⟩) :
    wpAny (MD w) A (isTrue (.Compare (.Subscript (.Name "group" p1) (.Constant (.int 0) k1 p2) p3) [.Eq] [.Tuple [.Constant (.int 0) k2 p4, .Constant (.str x) k3 p5] x1 p6] p7) env
      (eval (.Compare (.Subscript (.Name "group" p1) (.Constant (.int 0) k1 p2) p3) [.Eq] [.Tuple [.Constant (.int 0) k2 p4, .Constant (.str x) k3 p5] x1 p6] p7) env)) Q E ⟨h, g, dr, tk, os⟩ := by
  refine wpAny_isTrue_Compare1 ?_
  refine sub_rule ?_
  refine ld_name S n hx hm ?_
  refine k_int fun t1 tk1 => ?_
  obtain ⟨a, xs, rfl, hl, al⟩ := ListAt.isList S hg
  obtain ⟨u, eu, hu⟩ := al.get (i := 0) rfl
  refine item_list hl (by omega) (by omega) (x := u) (by simpa using eu) ?_
  refine e_pair S fun v h1 tk2 R1 k1 S1 hv => ?_
  obtain ⟨as, ra⟩ := (rd_pair (hu.up k1)).up S1.sub
  obtain ⟨bs, rb⟩ := (rd_pair hv).up S1.sub
  refine eq_dataH ra rb ((shp_pair ok).shaped (by decide)) ((shp_pair (p := (0, x)) okx).shaped (by decide)) (by have := o.un; show A.units + 64 < 9900; omega) ?_
  rw [eqv_pair]
  refine wpAny_truthy_bool ?_
  exact q h1 tk2 R1 k1 S1

theorem o_iaddl {l b : Addr} {xs ys : Array Value} {Q : Value → Shared → Prop} (S : St R ((l, LsO xs) :: (b, LsO ys) :: led) h) (hsz : xs.size + ys.size ≤ 1000)
    (q : ∀ h', St R ((l, LsO (xs ++ ys)) :: led) h' → Q (.ref l) ⟨h', g, dr, tk, os⟩) : wpAny (MD w) A (inplaceOp .Add (.ref l) (.ref b)) Q E ⟨h, g, dr, tk, os⟩ := by
  have hlT : (⟨h, g, dr, tk, os⟩ : Shared).TypeIs (.ref l) "list" := (LsO.isList S.head).typeIs
  have hbT : (⟨h, g, dr, tk, os⟩ : Shared).TypeIs (.ref b) "list" := (LsO.isList S.f1.head).typeIs
  obtain ⟨_, el, n, rfl⟩ := S.head
  obtain ⟨_, eb, n', rfl⟩ := S.f1.head
  have hfi : fillsInplaceSlot (.type "list") "add" (Operator.Add == .Add) = pure false := by
    unfold fillsInplaceSlot
    show (typeLookup (.type "list") (dunderI "add") >>= fun fi => pure (fi.isSome && !isSeqSlot fi)) = pure false
    rw [F.slot_list_iadd.lookup]
    have hs : isSeqSlot (some (.builtin "list.__iadd__")) = true := by decide +kernel
    simp only [pure_bind, hs]
    rfl
  have hsi : seqSlot? (.type "list") (dunderI "add") = pure (some (.builtin "list.__iadd__")) := PySem.seqSlot_of F.slot_list_iadd.lookup (by decide +kernel)
  unfold inplaceOp
  refine wpAny_holding ?_
  refine wpAny_bind (wpAny_typeOf hlT (wpAny_bind (wpAny_of_eq hfi ?_)))
  show wpAny _ A (if false = true then _ else _) Q E _
  rw [if_neg Bool.false_ne_true]
  refine wpAny_bind (wpAny_binaryOp1_none (nm := "add") hlT hbT noFill_list_add ?_)
  refine wpAny_bind (wpAny_of_eq hsi ?_)
  refine wpAny_bind (wpAny_rule ?_)
  refine call_meets F.slot_list_iadd hlT F.entry_list_iadd (F.args_list_iadd_2 _ _) (AutoSeq1.list___iadd___list_list_0 l xs n b ys n' ?_ ?_ ?_) ⟨el, eb, ?_⟩
  · have hz : Builtin.List.listTooLong (xs.size + ys.size) = false := by unfold Builtin.List.listTooLong; simp [sizeLine_eq]; omega
    rw [hz, Bool.and_false]; exact Bool.false_ne_true
  · rw [sizeLine_eq]; omega
  · rw [sizeLine_eq]; omega
  · refine q _ (S.tail2.ch (P' := LsO (xs ++ ys)) (fun c o hc e => ?_) ⟨_, Heap.get?_update_self _ el rfl, _, rfl⟩)
    exact (Heap.get?_update_other _ _ (fun z => hc z.symm)).trans e

theorem assign_sub {ob i : Expr} {pos : Pos} {v : Value} {s : Shared} {Q : Unit → Shared → Prop}
    (q : wpAny (MD w) A (eval ob env) (fun ov s₁ => wpAny (MD w) A (eval i env) (fun iv s₂ => wpAny (MD w) A (setItem ov iv v) (fun _ s₃ => Q () s₃) E s₂) E s₁) E s) : wpAny (MD w) A (assign (.Subscript ob i pos) env v) Q E s := by
  rw [PySem.assign_Subscript]
  refine wpAny_bind (wpAny_holding (wpAny_mono q (fun ov s₁ h₁ => ?_) fun _ _ z => z))
  refine wpAny_bind (wpAny_holding (wpAny_mono h₁ (fun iv s₂ h₂ => ?_) fun _ _ z => z))
  refine wpAny_bind (wpAny_standAt ?_)
  refine wpAny_bind (wpAny_holding (wpAny_mono h₂ (fun _ s₃ h₃ => ?_) fun _ _ z => z))
  exact wpAny_release h₃

def SecG (R : Heap) (kv : Str × Value) (sp : Str × List (List Pair)) : Prop := kv.1 = sp.1 ∧ ListAt GrpAt R kv.2 sp.2
theorem SecG.up {R R' : Heap} (k : Sub R R') {kv sp} (x : SecG R kv sp) : SecG R' kv sp := ⟨x.1, x.2.up grp_mono k⟩
theorem put_allG {n : Str} {v : Value} {s : List (List Pair)} (hv : ListAt GrpAt R v s) {kvs : List (Str × Value)} {secs : Secs} (x : All2 (SecG R) kvs secs) : All2 (SecG R) (put kvs n v) (put secs n s) := by
  have hany : ∀ {kvs : List (Str × Value)} {secs : Secs}, All2 (SecG R) kvs secs → kvs.any (fun kv => kv.1 = n) = secs.any (fun kv => kv.1 = n) := by
    intro kvs secs x
    induction x with
    | nil => rfl
    | cons a _ ih => rw [List.any_cons, List.any_cons, ih, a.1]
  have hmap : ∀ {kvs : List (Str × Value)} {secs : Secs}, All2 (SecG R) kvs secs → All2 (SecG R) (kvs.map fun kv => if kv.1 = n then (kv.1, v) else kv) (secs.map fun kv => if kv.1 = n then (kv.1, s) else kv) := by
    intro kvs secs x
    induction x with
    | nil => exact .nil
    | cons a _ ih =>
      refine .cons ?_ ih
      dsimp only
      rw [← a.1]
      split
      · exact ⟨rfl, hv⟩
      · exact a
  unfold put
  rw [hany x]
  split
  · exact hmap x
  · exact x.snoc ⟨rfl, hv⟩
theorem value_atG {kvs : List (Str × Value)} {secs : Secs} (hk : All2 (SecG R) kvs secs) (nd : (kvs.map (·.1)).Nodup) {sp : Str × List (List Pair)} (hs : sp ∈ secs) : ∃ v, valueAt kvs sp.1 = some v ∧ ListAt GrpAt R v sp.2 := by
  induction hk with
  | nil => cases hs
  | @cons kv sp' as bs a r ih =>
    rw [List.map_cons, List.nodup_cons] at nd
    rcases List.mem_cons.mp hs with rfl | hs
    · refine ⟨kv.2, ?_, a.2⟩
      unfold valueAt
      rw [List.find?_cons_of_pos (by simpa using a.1)]; rfl
    · obtain ⟨v, e, l⟩ := ih nd.2 hs
      refine ⟨v, ?_, l⟩
      have hne : ¬ kv.1 = sp.1 := fun z => by
        obtain ⟨i, hi⟩ := List.getElem?_of_mem hs
        obtain ⟨kv2, hkv2, hP⟩ := r.get hi
        exact nd.1 (List.mem_map.mpr ⟨kv2, List.mem_of_getElem? hkv2, by rw [z]; exact hP.1⟩)
      unfold valueAt at e ⊢
      rw [List.find?_cons_of_neg (by simpa using hne)]; exact e

theorem put_names {β : Type} (l : List (Str × β)) (n : Str) (v : β) : (put l n v).map (·.1) = if (l.map (·.1)).any (· = n) = true then l.map (·.1) else l.map (·.1) ++ [n] := by
  have e : (l.map (·.1)).any (· = n) = l.any (fun kv => kv.1 = n) := by rw [List.any_map]; rfl
  rw [e]
  unfold put
  split
  · rw [List.map_map]
    apply List.map_congr_left
    intro x _
    show (if x.1 = n then (x.1, v) else x).1 = x.1
    split <;> rfl
  · rw [List.map_append]; rfl
theorem eqv_any (xs : List Str) (n : Str) : (xs.map PyData.str).any (fun y => PyData.eqv y (.str n)) = xs.any (· = n) := by
  rw [List.any_map]
  congr 1
/-- `x in names`, a list of texts -/
theorem in_names {xs : List Str} {n : Str} {t : Tok} {Q : Value → Shared → Prop} (o : Aok 100 A) (S : St R led h) {nl : Addr} {nms : Array Value} (e : h.IsList nl nms) (hn : All2 (StrAt R) nms.toList xs) (hok : ∀ x ∈ xs, PyData.strOk x = true) (okn : PyData.strOk n = true)
    (q : Q (.bool (xs.any (· = n))) ⟨h, g, dr, tk, os⟩) : wpAny (MD w) A (compareOp .In (.str n t) (.ref nl)) Q E ⟨h, g, dr, tk, os⟩ := by
  obtain ⟨oo, e1, e2, k, e3⟩ := e
  obtain ⟨as, ra⟩ := rd_all (enc := PyData.str) (W := StrAt) (h := h) (fun _ _ z => rd_str z) (hn.mono fun _ _ z => str_mono _ _ _ _ S.sub z)
  have rc : Reads h (.ref nl) (.list (xs.map .str)) _ := Reads.list e1 e2 e3 ra
  have hs : Shp 1 (dStrs xs) := shp_strs hok
  have hsa := hs.1
  unfold dStrs at hsa
  rw [PyData.canLay0] at hsa
  refine SeqAt.in_list_reads (d := .str n) rc (Reads.str _ _) hsa (shp_str okn).1 ?_ ?_
  · have := (shp_str okn).2
    have := o.un
    show A.units + 1 + min _ (PyData.depth (.str n)) < 9900
    omega
  · rw [eqv_any]; exact q
end
end Fw

namespace Fw
open PySem PySem.W PySem.W.X PyProof.Rows PySem.Spec PySem.Calls

section
variable {w : World} {mg mb : Str → Option Value} {A : Around} {E : Value → Shared → Prop} {R h : Heap} {g : Array GenState} {dr : Drawn} {tk : Nat} {os : OsState} {env : Env} {led rest : Led} {δ ε : Type}

theorem insB_snoc {sec : List (List Pair)} {gp : List Pair} (hS : ¬ isHd gp "SECTION" = true) : insB (sec ++ [gp]) = insB sec := by
  cases sec with
  | nil =>
    show isHd gp "SECTION" = false
    cases z : isHd gp "SECTION" with
    | true => exact absurd z hS
    | false => rfl
  | cons a r => rfl
theorem two_of {α : Type} : ∀ {l : List α}, ¬ l.length < 2 → ∃ a b r, l = a :: b :: r
  | [], h => absurd (by simp) h
  | [_], h => absurd (by simp) h
  | a :: b :: r, _ => ⟨a, b, r, rfl⟩
theorem secName_short : ∀ {hdg : List Pair} {sr : List (List Pair)}, hdg.length < 2 → secName (hdg :: sr) = none
  | [], _, _ => rfl
  | [_], _, _ => rfl
  | _ :: _ :: _, _, h => absurd h (by simp)
theorem sub_new {h' : Heap} (hs : Heap.ExtBut h.objs.size h h') : Sub h h' := fun b _ e => hs b _ (Nat.ne_of_lt (Heap.lt_size e)) e

def InvD (w : World) (R₀ : Heap) (L nl sd : Addr) (lets : Bool) (led0 : Led) (res : Option Secs) (rem : List (List Pair)) (R : Heap) (ld : Led) : Prop :=
  Sub R₀ R ∧ ∃ m nms kvs secs sec e,
    (m "names" = some (.ref nl) ∧ m "inside" = some (.bool (insB sec)) ∧ m "ended" = some (.bool e) ∧ m "lets" = some (.bool lets)) ∧
    (All2 (SecG R) kvs secs ∧ All2 (StrAt R) nms.toList (secs.map (·.1)) ∧ (∀ sp ∈ secs, PyData.strOk sp.1 = true)) ∧
    (sec.length + rem.length ≤ 900 ∧ secs.length + rem.length ≤ 900) ∧ (∀ gp ∈ rem, gp ≠ [] ∧ gp.length ≤ 900) ∧ OkG rem ∧ (∀ gp ∈ sec, gp.length ≤ 900) ∧ OkG sec ∧ run lets rem secs sec e = res ∧
    ∃ ld', ld = (L, NsO m) :: (nl, LsO nms) :: (sd, DiO w kvs) :: ld' ∧
    ((insB sec = false ∧ ld' = led0) ∨ (insB sec = true ∧ ∃ wl xs, m "whole" = some (.ref wl) ∧ ld' = (wl, LsO xs) :: led0 ∧ All2 (GrpAt R) xs.toList sec))
theorem InvD.up {R₀ : Heap} {L nl sd : Addr} {lets : Bool} {led0 : Led} {res : Option Secs} : ∀ rem R R' ld, Sub R R' → InvD w R₀ L nl sd lets led0 res rem R ld → InvD w R₀ L nl sd lets led0 res rem R' ld := by
  rintro rem R R' ld k ⟨h0, m, nms, kvs, secs, sec, e, e1, ⟨e2, e3, e4⟩, e5, e6, e7, e8, e9, e10, ld', e11, e12⟩
  refine ⟨h0.trans k, m, nms, kvs, secs, sec, e, e1, ⟨e2.mono fun _ _ => SecG.up k, e3.mono fun _ _ => str_mono _ _ _ _ k, e4⟩, e5, e6, e7, e8, e9, e10, ld', e11, ?_⟩
  rcases e12 with z | ⟨z, wl, xs, z1, z2, z3⟩
  · exact .inl z
  · exact .inr ⟨z, wl, xs, z1, z2, z3.mono fun _ _ => GrpAt.up k⟩

/-- `[] if name in names else [name]` -/
theorem e_addName {L nl : Addr} {m : Str → Option Value} {nms : Array Value} {xs : List Str} {n : Str} {t : Tok} {p1 p2 p3 p4 p5 p6 p7 : Pos} {Q : Value → Shared → Prop} (o : Aok 100 A) (S : St R ((L, NsO m) :: (nl, LsO nms) :: led) h) (nm : Names env L)
    (hx : env.kindOf "name" = some .local) (hy : env.kindOf "names" = some .local) (hm : m "name" = some (.str n t)) (hm2 : m "names" = some (.ref nl)) (hnm : All2 (StrAt R) nms.toList xs) (hok : ∀ x ∈ xs, PyData.strOk x = true) (okn : PyData.strOk n = true)
    (q : ∀ b ys h' tk', ys.size ≤ 1 → All2 (StrAt R) (nms.toList ++ ys.toList) (if xs.any (· = n) = true then xs else xs ++ [n]) → St R ((b, LsO ys) :: (L, NsO m) :: (nl, LsO nms) :: led) h' → Q (.ref b) ⟨h', g, dr, tk', os⟩) :
    wpAny (MD w) A (eval (.IfExp (.Compare (.Name "name" p1) [.In] [.Name "names" p2] p3) (.List [] p4) (.List [.Name "name" p5] p6) p7) env) Q E ⟨h, g, dr, tk, os⟩ := by
  refine IfExp_ ?_
  refine wpAny_isTrue_Compare1 ?_
  refine ld_name S nm hx hm ?_
  refine ld_name S nm hy hm2 ?_
  refine in_names (xs := xs) o S (LsO.isList S.f1.head) hnm hok okn ?_
  refine wpAny_truthy_bool ?_
  split
  · next hin =>
    refine e_list ?_
    refine spl_nil ⟨by show 0 ≤ 1000; omega, h, g, _, R, _, rfl, S, fun b h15 S15 => ?_⟩
    refine q b #[] h15 _ (by decide) ?_ S15
    rw [if_pos hin]
    simpa using hnm
  · next hin =>
    refine e_list ?_
    refine spl_cons ?_
    refine ld_name S nm hx hm ?_
    refine spl_nil ⟨by show 1 ≤ 1000; omega, h, g, _, R, _, rfl, S, fun b h15 S15 => ?_⟩
    refine q b #[.str n t] h15 _ (Nat.le_refl 1) ?_ S15
    rw [if_neg hin]
    exact hnm.snoc ⟨t, rfl⟩

set_option maxHeartbeats 4000000 in
theorem due_turn {L nl sd : Addr} {lets : Bool} {led0 : Led} {res : Option Secs} {R₀ : Heap} {g₀ : Array GenState} {QF : Flow → Shared → Prop} (o : Aok 400 A) (hc : R₀.IsCell (L + 1) (some (.ref sd)))
    (qN : res = none → ∀ h' tk' g' R' Y, Sub R₀ R' → St R' Y h' → (∀ p ∈ led0, p ∈ Y) → (AllBare g₀ → AllBare g') → QF (.ret .none) ⟨h', g', dr, tk', os⟩)
    {d : List Pair} {ds : List (List Pair)} {v : Value} {tail : Led} (hI : InvD w R₀ L nl sd lets led0 res (d :: ds) R led) (T : Stat w mg mb R) (S : St R (led ++ tail) h) (hv : GrpAt R v d) (hb : AllBare g₀ → AllBare g) :
    wpAny (MD w) A (assign (forT (ust w 1)) (uenv w L) v) (fun _ s₂ => wpAny (MD w) A (execs (forB (ust w 1)) (uenv w L)) (fun f s₃ => match f with
        | .next | .cont => ∃ h' g' tk' R' led', s₃ = ⟨h', g', dr, tk', os⟩ ∧ Sub R R' ∧ St R' (led' ++ tail) h' ∧ InvD w R₀ L nl sd lets led0 res ds R' led' ∧ (g' = g ∨ true = true) ∧ (AllBare g → AllBare g')
        | .brk => QF .next s₃
        | .ret v => QF (.ret v) s₃) E s₂) E ⟨h, g, dr, tk, os⟩ := by
  obtain ⟨h0, m, nms, kvs, secs, sec, e, ⟨m1, m2, m3, m4⟩, ⟨hkv, hnm, hno⟩, ⟨hl1, hl2⟩, hrne, hrok, hsl, hsok, hrun, ld', rfl, hcase⟩ := hI
  obtain ⟨hdne, hdl⟩ := hrne d (.head _)
  have hrne' : ∀ gp ∈ ds, gp ≠ [] ∧ gp.length ≤ 900 := fun gp hgp => hrne gp (.tail _ hgp)
  have hrok' : OkG ds := fun gp hgp => hrok gp (.tail _ hgp)
  have hdok : OkP d := hrok _ (.head _)
  rw [List.length_cons] at hl1 hl2
  have hled0 : ∀ p ∈ led0, p ∈ ld' := fun p hp => by
    rcases hcase with ⟨_, rfl⟩ | ⟨_, wl, xs, _, rfl, _⟩
    · exact hp
    · exact .tail _ hp
  cases d with
  | nil => exact absurd rfl hdne
  | cons p ps =>
    have okp : PyData.strOk p.2 = true := hdok _ (.head _)
    refine st_name S (unames L) (by kernel_rfl) fun h1 tk1 S1 => ?_
    have n1 : upd m "group" v "names" = some (.ref nl) := (upd_ne (by decide)).trans m1
    have n2 : upd m "group" v "inside" = some (.bool (insB sec)) := (upd_ne (by decide)).trans m2
    have n3 : upd m "group" v "ended" = some (.bool e) := (upd_ne (by decide)).trans m3
    have n4 : upd m "group" v "lets" = some (.bool lets) := (upd_ne (by decide)).trans m4
    have nw : ∀ wl : Addr, m "whole" = some (.ref wl) → upd m "group" v "whole" = some (.ref wl) := fun wl hw => (upd_ne (by decide)).trans hw
    have n5 : upd m "group" v "group" = some v := upd_self
    generalize upd m "group" v = mm at S1 n1 n2 n3 n4 nw n5
    have rNone : ∀ h' tk' R' Y, Sub R R' → St R' Y h' → (∀ q ∈ ld', q ∈ Y) → res = none → QF (.ret .none) ⟨h', g, dr, tk', os⟩ := fun h' tk' R' Y k S' hY hr =>
      qN hr h' tk' g R' Y (h0.trans k) S' (fun q hq => hY q (hled0 q hq)) hb
    refine wpAny_execs_cons ?_
    refine wpAny_If ?_
    refine e_hdIs (ps := ps) (o.less 100 (by decide)) S1 (unames L) (by kernel_rfl) n5 hv okp (by decide +kernel) fun h2 tk2 R2 k2 S2 => ?_
    split
    · next hS =>
      refine wpAny_execs_cons ?_
      refine wpAny_If ?_
      refine wpAny_isTrue_value ?_
      refine ld_name S2 (unames L) (by kernel_rfl) n2 ?_
      refine wpAny_truthy_bool ?_
      cases hi : insB sec with
      | true =>
        rw [if_pos rfl]
        refine wpAny_execs_cons ?_
        refine wpAny_Return_some ?_
        refine Constant_none ?_
        refine rNone h2 _ R2 _ k2 S2 (fun q hq => .tail _ (.tail _ (.tail _ (List.mem_append_left _ hq)))) ?_
        rw [← hrun, run_cons, if_pos hS, if_pos hi]
      | false =>
        rw [if_neg Bool.false_ne_true]
        refine wpAny_execs_nil ?_
        refine wpAny_execs_cons ?_
        refine Assign_Tuple_swapped (names := ["inside", "whole"]) ?_ (by kernel_rfl) (by kernel_rfl)
        refine e_tuple ?_
        refine spl_cons ?_
        refine Constant_bool ?_
        refine spl_cons ?_
        refine e_list ?_
        refine spl_cons ?_
        refine ld_name S2 (unames L) (by kernel_rfl) n5 ?_
        refine spl_nil ⟨by show 1 ≤ 1000; omega, h2, g, _, R2, _, rfl, S2, fun b h3 S3 => ?_⟩
        refine spl_nil ⟨by show 2 ≤ 1000; omega, h3, g, _, R2, _, rfl, S3, fun a h4 R4 k4 S4 ea => ?_⟩
        refine unpackItems_tuple (items := #[.bool true, .ref b]) o.hd ⟨_, S4.sub _ _ ea, rfl, 0, rfl⟩ fun h5 hx5 => ?_
        have S5 := S4.ext (sub_new hx5)
        refine assignInOrder_cons ?_
        refine bindName_ ?_
        refine st_local S5.f1 rfl (by kernel_rfl) (fun h6 tk6 S6 _ => ?_) (by kernel_rfl)
        refine assignInOrder_cons ?_
        refine bindName_ ?_
        refine st_local S6 rfl (by kernel_rfl) (fun h7 tk7 S7 _ => ?_) (by kernel_rfl)
        refine assignInOrder_nil ?_
        refine wpAny_execs_nil ?_
        refine wpAny_execs_nil ?_
        have kk : Sub R R4 := k2.trans k4
        rcases hcase with ⟨_, rfl⟩ | ⟨hi', _⟩
        · refine ⟨h7, g, tk7, R4, _ :: (nl, LsO nms) :: (sd, DiO w kvs) :: (b, LsO #[v]) :: ld', rfl, kk, S7.f1.f3.f3.f3, ?_, .inr rfl, fun b => b⟩
          refine ⟨h0.trans kk, _, nms, kvs, secs, [p :: ps], e, ⟨?_, ?_, ?_, ?_⟩, ⟨hkv.mono fun _ _ => SecG.up kk, hnm.mono fun _ _ => str_mono _ _ _ _ kk, hno⟩, ⟨by rw [List.length_singleton]; omega, by omega⟩, hrne', hrok', fun gp hgp => ?_, fun gp hgp => ?_, ?_, (b, LsO #[v]) :: ld', rfl, .inr ⟨hS, b, #[v], ?_, rfl, ?_⟩⟩
          · exact (upd_ne (by decide)).trans ((upd_ne (by decide)).trans n1)
          · rw [upd_self, show insB [p :: ps] = true from hS]
          · exact (upd_ne (by decide)).trans ((upd_ne (by decide)).trans n3)
          · exact (upd_ne (by decide)).trans ((upd_ne (by decide)).trans n4)
          · cases List.mem_singleton.mp hgp; exact hdl
          · cases List.mem_singleton.mp hgp; exact hdok
          · rw [← hrun, run_cons, if_pos hS, if_neg (by rw [hi]; decide)]
          · exact (upd_ne (by decide)).trans upd_self
          · exact .cons (GrpAt.up kk hv) .nil
        · rw [hi] at hi'; cases hi'
    · next hS =>
      refine wpAny_execs_cons ?_
      refine wpAny_If ?_
      refine e_hdIs (ps := ps) (o.less 100 (by decide)) S2 (unames L) (by kernel_rfl) n5 (GrpAt.up k2 hv) okp (by decide +kernel) fun h3 tk3 R3 k3 S3 => ?_
      have k03 : Sub R R3 := k2.trans k3
      split
      · next hN =>
        have rN : ∀ h' tk', St R3 ((L, NsO mm) :: (nl, LsO nms) :: (sd, DiO w kvs) :: (ld' ++ tail)) h' → (insB sec = false ∨ secName sec = none) → QF (.ret .none) ⟨h', g, dr, tk', os⟩ := fun h' tk' S' hz => by
          refine rNone h' _ R3 _ k03 S' (fun q hq => .tail _ (.tail _ (.tail _ (List.mem_append_left _ hq)))) ?_
          rw [← hrun, run_cons, if_neg hS, if_pos hN]
          rcases hz with z | z
          · rw [if_neg (by rw [z]; decide)]
          · rw [z]; split <;> rfl
        refine wpAny_execs_cons ?_
        refine wpAny_If ?_
        refine isTrue_or ?_
        refine isTrue_not ?_
        refine wpAny_isTrue_value ?_
        refine ld_name S3 (unames L) (by kernel_rfl) n2 ?_
        refine wpAny_truthy_bool ?_
        rcases hcase with ⟨hi, rfl⟩ | ⟨hi, wl, xs, hw, rfl, hxs⟩
        · rw [if_pos (by rw [hi]; rfl)]
          rw [if_pos rfl]
          refine wpAny_execs_cons ?_
          refine wpAny_Return_some ?_
          refine Constant_none ?_
          exact rN h3 _ S3 (.inl hi)
        · rw [if_neg (by rw [hi]; decide)]
          have hw' := nw wl hw
          cases sec with
          | nil => cases hi
          | cons hdg srest =>
            obtain ⟨u, eu, hu⟩ : ∃ v, xs.toList[0]? = some v ∧ GrpAt R v hdg := hxs.get (i := 0) rfl
            have hgl := hsl hdg (.head _)
            have hgok := hsok hdg (.head _)
            have hwl : h3.IsList wl xs := LsO.isList S3.f3.head
            refine isTrue_or ?_
            refine wpAny_isTrue_Compare1 ?_
            refine e_len (uenv0 L) (by kernel_rfl) ((T.up k03).up S3.sub) ?_
            refine sub_rule ?_
            refine ld_name S3 (unames L) (by kernel_rfl) hw' ?_
            refine k_int fun t4 tk4 => ?_
            refine item_list hwl (by omega) (by omega) (x := u) (by simpa using eu) ?_
            obtain ⟨ga, gxs, rfl, hgL, gal⟩ := ListAt.isList S3 (GrpAt.up k03 hu)
            have hgn := gal.length
            refine ⟨ga, gxs.toArray, h3, g, tk4, rfl, rfl, hgL, by rw [List.size_toArray]; omega, fun t5 tk5 => ?_⟩
            refine k_int fun t6 tk6 => ?_
            refine PyProof.Rows.lt_int ?_
            refine wpAny_truthy_bool ?_
            have short : hdg.length < 2 → secName (hdg :: srest) = none := secName_short
            by_cases hlt : hdg.length < 2
            · rw [if_pos (by rw [List.size_toArray, hgn]; simp; omega)]
              rw [if_pos rfl]
              refine wpAny_execs_cons ?_
              refine wpAny_Return_some ?_
              refine Constant_none ?_
              exact rN h3 _ S3 (.inr (short hlt))
            · rw [if_neg (by rw [List.size_toArray, hgn]; simp; omega)]
              obtain ⟨q0, q1, qs, rfl⟩ := two_of hlt
              cases gal with
              | cons hq0 gal =>
              cases gal with
              | cons hq1 gal =>
              rename_i gv0 gvs gv1
              have okn : PyData.strOk q1.2 = true := hgok _ (.tail _ (.head _))
              obtain ⟨qa, u1, u2, qn, rfl, eqa⟩ := hq1
              refine isTrue_or ?_
              refine wpAny_isTrue_Compare1 ?_
              refine sub_rule ?_
              refine sub_rule ?_
              refine sub_rule ?_
              refine ld_name S3 (unames L) (by kernel_rfl) hw' ?_
              refine k_int fun t7 tk7 => ?_
              refine item_list hwl (by omega) (by omega) (x := .ref ga) (by simpa using eu) ?_
              refine k_int fun t8 tk8 => ?_
              refine item_list hgL (by omega) (by omega) (x := .ref qa) (by rfl) ?_
              refine k_int fun t9 tk9 => ?_
              refine item_tup ⟨_, S3.sub _ _ eqa, rfl, qn, rfl⟩ (by omega) (by omega) (x := .int q1.1 u1) rfl ?_
              refine k_int fun t10 tk10 => ?_
              refine PyProof.Rows.ne_int ?_
              refine wpAny_truthy_bool ?_
              by_cases hq2 : q1.1 = 2
              · rw [if_neg (by rw [hq2]; decide)]
                refine isTrue_or_nil ?_
                rw [if_neg (by decide)]
                refine wpAny_execs_nil ?_
                have hsn : secName ((q0 :: q1 :: qs) :: srest) = some q1.2 := if_pos hq2
                -- the name
                refine wpAny_execs_cons ?_
                refine wpAny_Assign_Name ?_
                refine sub_rule ?_
                refine sub_rule ?_
                refine sub_rule ?_
                refine ld_name S3 (unames L) (by kernel_rfl) hw' ?_
                refine k_int fun t11 tk11 => ?_
                refine item_list hwl (by omega) (by omega) (x := .ref ga) (by simpa using eu) ?_
                refine k_int fun t12 tk12 => ?_
                refine item_list hgL (by omega) (by omega) (x := .ref qa) (by rfl) ?_
                refine k_int fun t13 tk13 => ?_
                refine item_tup ⟨_, S3.sub _ _ eqa, rfl, qn, rfl⟩ (by omega) (by omega) (x := .str q1.2 u2) rfl ?_
                refine st_local S3 rfl (by kernel_rfl) (fun h14 tk14 S14 _ => ?_) (by kernel_rfl)
                -- names
                refine wpAny_execs_cons ?_
                refine wpAny_AugAssign_Name ?_
                refine wpAny_loadName_local (m := upd mm "name" (.str q1.2 u2)) (by kernel_rfl) (by kernel_rfl) (NsO.ns S14.head) ((upd_ne (by decide)).trans n1) ?_
                have hput := put_names secs q1.2 ((q0 :: q1 :: qs) :: srest)
                refine e_addName (xs := secs.map (·.1)) (o.less 100 (by decide)) S14 (unames L) (by kernel_rfl) (by kernel_rfl) upd_self ((upd_ne (by decide)).trans n1) (hnm.mono fun _ _ => str_mono _ _ _ _ k03) (fun x hx => by
                  obtain ⟨sp, h1, rfl⟩ := List.mem_map.mp hx
                  exact hno sp h1) okn fun b ys h15 tk15 hys hnm2 S15 => ?_
                rw [← hput] at hnm2
                have hns := hnm.length
                rw [Array.length_toList, List.length_map] at hns
                refine o_iaddl S15.f2 (by omega) fun h16 S16 => ?_
                refine st_local S16.f1 rfl (by kernel_rfl) (fun h17 tk17 S17 _ => ?_) (by kernel_rfl)
                refine wpAny_execs_cons ?_
                refine Assign_Tuple ?_ (by kernel_rfl) (by kernel_rfl)
                refine e_tuple ?_
                refine spl_cons ?_
                refine ld_name S17 (unames L) (by kernel_rfl) (v := .ref wl) ((upd_ne (by decide)).trans ((upd_ne (by decide)).trans hw')) ?_
                refine spl_cons ?_
                refine Constant_bool ?_
                refine spl_cons ?_
                refine e_list ?_
                refine spl_nil ⟨by show 0 ≤ 1000; omega, h17, g, _, R3, _, rfl, S17, fun b2 h18 S18 => ?_⟩
                refine spl_nil ⟨by show 3 ≤ 1000; omega, h18, g, _, R3, _, rfl, S18, fun a h19 R19 k19 S19 ea => ?_⟩
                refine assign_Tuple_tuple (items := #[.ref wl, .bool false, .ref b2]) o.hd ⟨_, S19.sub _ _ ea, rfl, 0, rfl⟩ (by kernel_rfl) (by kernel_rfl) fun h20 hx20 => ?_
                have S20 := S19.ext (sub_new hx20)
                have k019 : Sub R R19 := k03.trans k19
                refine assignInOrder_cons ?_
                refine assign_sub ?_
                refine ld_cell (by kernel_rfl) (by kernel_rfl) (c := L + 1) (by kernel_rfl) (v := .ref sd) ((hc.keeps (h0.trans k019)).keeps S20.sub) ?_
                refine ld_name S20.f1 (unames L) (by kernel_rfl) (v := .str q1.2 u2) ((upd_ne (by decide)).trans upd_self) ?_
                have hkl := hkv.length
                refine wpAny_setItem_pairs (knd := strKind PG w) (k := q1.2) (by simp [PySem.strKind, Value.isStrOf]) (DiO.dictOf S20.f3.head) (fun h21 hd21 hs21 => ?_) (by rw [sizeLine_eq, hkl]; omega)
                have S21 := S20.f3.ch (P' := DiO w (put kvs q1.2 (.ref wl))) hs21.extBut (DiO.of hd21)
                refine assignInOrder_cons ?_
                refine st_name S21.f2 (unames L) (by kernel_rfl) fun h22 tk22 S22 => ?_
                refine assignInOrder_cons ?_
                refine st_name S22 (unames L) (by kernel_rfl) fun h23 tk23 S23 => ?_
                refine assignInOrder_nil ?_
                refine wpAny_execs_nil ?_
                refine wpAny_execs_nil ?_
                refine wpAny_execs_nil ?_
                obtain ⟨R24, k24, S24, ⟨owl, ewl, hwl⟩, _⟩ := S23.f4.freezeHead
                have kf : Sub R R24 := k019.trans k24
                refine ⟨h23, g, _, R24, _ :: (nl, LsO (nms ++ ys)) :: (sd, DiO w (put kvs q1.2 (.ref wl))) :: led0, rfl, kf, S24.f2.tail.f2.f1, ?_, .inr rfl, fun b => b⟩
                have hpl := put_length secs q1.2 ((q0 :: q1 :: qs) :: srest)
                refine ⟨h0.trans kf, _, nms ++ ys, _, put secs q1.2 ((q0 :: q1 :: qs) :: srest), [], e, ⟨?_, ?_, ?_, ?_⟩, ⟨put_allG ⟨wl, owl, xs.toList, rfl, ewl, hwl, hxs.mono fun _ _ => GrpAt.up kf⟩ (hkv.mono fun _ _ => SecG.up kf), ?_, fun sp hsp => ?_⟩, ⟨by rw [List.length_nil]; omega, by omega⟩, hrne', hrok', (fun gp hgp => nomatch hgp), (fun gp hgp => nomatch hgp), ?_, led0, rfl, .inl ⟨rfl, rfl⟩⟩
                · exact (upd_ne (by decide)).trans ((upd_ne (by decide)).trans upd_self)
                · exact (upd_ne (by decide)).trans upd_self
                · exact (upd_ne (by decide)).trans ((upd_ne (by decide)).trans ((upd_ne (by decide)).trans ((upd_ne (by decide)).trans n3)))
                · exact (upd_ne (by decide)).trans ((upd_ne (by decide)).trans ((upd_ne (by decide)).trans ((upd_ne (by decide)).trans n4)))
                · rw [Array.toList_append]; exact hnm2.mono fun _ _ => str_mono _ _ _ _ k24
                · have : sp.1 ∈ (put secs q1.2 ((q0 :: q1 :: qs) :: srest)).map (·.1) := List.mem_map.mpr ⟨sp, hsp, rfl⟩
                  rw [hput] at this
                  split at this
                  · obtain ⟨sp', h1, h2⟩ := List.mem_map.mp this
                    rw [← h2]; exact hno sp' h1
                  · rcases List.mem_append.mp this with z | z
                    · obtain ⟨sp', h1, h2⟩ := List.mem_map.mp z
                      rw [← h2]; exact hno sp' h1
                    · rw [List.mem_singleton.mp z]; exact okn
                · rw [← hrun, run_cons, if_neg hS, if_pos hN, if_pos hi, hsn]
              · rw [if_pos (by simpa using hq2)]
                rw [if_pos rfl]
                refine wpAny_execs_cons ?_
                refine wpAny_Return_some ?_
                refine Constant_none ?_
                exact rN h3 _ S3 (.inr (if_neg hq2))
      · next hN =>
        refine wpAny_execs_cons ?_
        refine wpAny_If ?_
        refine e_hdIs (ps := ps) (o.less 100 (by decide)) S3 (unames L) (by kernel_rfl) n5 (GrpAt.up k03 hv) okp (by decide +kernel) fun h4 tk4 R4 k4 S4 => ?_
        have kk : Sub R R4 := k03.trans k4
        split
        · next hE =>
          refine wpAny_execs_cons ?_
          refine wpAny_Assign_Name ?_
          refine Constant_bool ?_
          refine st_local S4 rfl (by kernel_rfl) (fun h5 tk5 S5 _ => ?_) (by kernel_rfl)
          refine wpAny_execs_nil ?_
          refine wpAny_execs_nil ?_
          refine wpAny_execs_nil ?_
          refine wpAny_execs_nil ?_
          refine ⟨h5, g, tk5, R4, _ :: (nl, LsO nms) :: (sd, DiO w kvs) :: ld', rfl, kk, S5, ?_, .inr rfl, fun b => b⟩
          refine ⟨h0.trans kk, _, nms, kvs, secs, sec, true, ⟨(upd_ne (by decide)).trans n1, (upd_ne (by decide)).trans n2, upd_self, (upd_ne (by decide)).trans n4⟩, ⟨hkv.mono fun _ _ => SecG.up kk, hnm.mono fun _ _ => str_mono _ _ _ _ kk, hno⟩, ⟨by omega, by omega⟩, hrne', hrok', hsl, hsok, ?_, ld', rfl, ?_⟩
          · rw [← hrun, run_cons, if_neg hS, if_neg hN, if_pos hE]
          · rcases hcase with z | ⟨z, wl, xs, z1, z2, z3⟩
            · exact .inl z
            · exact .inr ⟨z, wl, xs, (upd_ne (by decide)).trans (nw wl z1), z2, z3.mono fun _ _ => GrpAt.up kk⟩
        · next hE =>
          have hrun' : run lets ds secs (sec ++ [p :: ps]) e = res := by rw [← hrun, run_cons, if_neg hS, if_neg hN, if_neg hE]
          have hsl' : ∀ gp ∈ sec ++ [p :: ps], gp.length ≤ 900 := fun gp hgp => by
            rcases List.mem_append.mp hgp with z | z
            · exact hsl gp z
            · cases List.mem_singleton.mp z; exact hdl
          have hsok' : OkG (sec ++ [p :: ps]) := fun gp hgp => by
            rcases List.mem_append.mp hgp with z | z
            · exact hsok gp z
            · cases List.mem_singleton.mp z; exact hdok
          refine wpAny_execs_cons ?_
          refine wpAny_If ?_
          refine wpAny_isTrue_value ?_
          refine ld_name S4 (unames L) (by kernel_rfl) n2 ?_
          refine wpAny_truthy_bool ?_
          rcases hcase with ⟨hi, rfl⟩ | ⟨hi, wl, xs, hw, rfl, hxs⟩
          · rw [hi, if_neg Bool.false_ne_true]
            refine wpAny_execs_nil ?_
            refine wpAny_execs_nil ?_
            refine wpAny_execs_nil ?_
            refine wpAny_execs_nil ?_
            refine wpAny_execs_nil ?_
            refine ⟨h4, g, _, R4, _ :: (nl, LsO nms) :: (sd, DiO w kvs) :: ld', rfl, kk, S4, ?_, .inr rfl, fun b => b⟩
            refine ⟨h0.trans kk, _, nms, kvs, secs, sec ++ [p :: ps], e, ⟨n1, by rw [insB_snoc hS]; exact n2, n3, n4⟩, ⟨hkv.mono fun _ _ => SecG.up kk, hnm.mono fun _ _ => str_mono _ _ _ _ kk, hno⟩, ⟨by rw [List.length_append, List.length_singleton]; omega, by omega⟩, hrne', hrok', hsl', hsok', hrun', ld', rfl, .inl ⟨by rw [insB_snoc hS]; exact hi, rfl⟩⟩
          · rw [hi, if_pos rfl]
            refine wpAny_execs_cons ?_
            refine wpAny_Expr_any ?_
            refine e_append ?_
            refine ld_name S4 (unames L) (by kernel_rfl) (nw wl hw) ?_
            refine ⟨wl, rfl, LsO.obj S4.f3, ?_⟩
            refine ld_name S4 (unames L) (by kernel_rfl) n5 ?_
            have hxl := hxs.length
            rw [Array.length_toList] at hxl
            refine ⟨h4, g, _, R4, _, xs, rfl, S4.f3, by omega, fun h5 S5 => ?_⟩
            refine wpAny_execs_nil ?_
            refine wpAny_execs_nil ?_
            refine wpAny_execs_nil ?_
            refine wpAny_execs_nil ?_
            refine wpAny_execs_nil ?_
            refine ⟨h5, g, _, R4, _ :: (nl, LsO nms) :: (sd, DiO w kvs) :: (wl, LsO (xs.push v)) :: led0, rfl, kk, S5.f3.f3.f3, ?_, .inr rfl, fun b => b⟩
            refine ⟨h0.trans kk, _, nms, kvs, secs, sec ++ [p :: ps], e, ⟨n1, by rw [insB_snoc hS]; exact n2, n3, n4⟩, ⟨hkv.mono fun _ _ => SecG.up kk, hnm.mono fun _ _ => str_mono _ _ _ _ kk, hno⟩, ⟨by rw [List.length_append, List.length_singleton]; omega, by omega⟩, hrne', hrok', hsl', hsok', hrun', _, rfl, .inr ⟨by rw [insB_snoc hS]; exact hi, wl, _, nw wl hw, rfl, ?_⟩⟩
            rw [Array.toList_push]
            exact (hxs.mono fun _ _ => GrpAt.up kk).snoc (GrpAt.up kk hv)
end
end Fw

namespace Fw
open PySem PySem.W PySem.W.X PyProof.Rows PySem.Spec PySem.Calls

section
variable {w : World} {mg mb : Str → Option Value} {A : Around} {E : Value → Shared → Prop} {R h : Heap} {g : Array GenState} {dr : Drawn} {tk : Nat} {os : OsState} {env : Env} {led rest : Led} {δ ε : Type}

def dueScope : Scope := { kind := .function, names := [(".0", .local), ("name", .local), ("sections", .free)], isGenerator := false, isCoroutine := false }
def SecU (R : Heap) (v : Value) (sp : Str × List (List Pair)) : Prop := Rd R v (dSec sp)
theorem SecD_mono : ∀ R R' v d, Sub R R' → SecU R v d → SecU R' v d := fun _ _ _ _ k x => Rd.up k x
theorem keyV_mono {secs : Secs} : ∀ R R' v d, Sub R R' → KeyV secs R v d → KeyV secs R' v d := fun _ _ _ _ _ x => x

/-- the turn of the last comprehension -/
theorem turn_due {L d : Addr} {od : Obj} {kvs : List (Str × Value)} {secs : Secs} {q1 q2 q3 q4 q6 q7 : Pos} {x2} (hc : R.IsCell (L + 1) (some (.ref d))) (ed : R.get? d = some od) (hd : DiO w kvs od) (hk : All2 (SecG R) kvs secs) :
    Turn w mg mb A dr os (KeyV secs) SecU some (.Tuple [.Name "name" q1, .Subscript (.Name "sections" q2) (.Name "name" q3) q4] x2 q6) (.Name "name" q7) [] (fun D => compEnvC dueScope [("sections", L + 1)] D (uenv w L)) R := by
  intro D sp v R' m tail h g tk E' kk T S hv
  obtain ⟨⟨t, rfl⟩, hsp⟩ := hv
  have n : Names (compEnvC dueScope [("sections", L + 1)] D (uenv w L)) D := ⟨rfl, (uenv0 (w := w) L).glo, rfl⟩
  refine st_name S n (by kernel_rfl) fun h₁ tk₁ S1 => ?_
  refine wpAny_tests_nil ⟨rfl, ?_⟩
  refine e_tuple ?_
  refine spl_cons ?_
  refine ld_name S1 n (by kernel_rfl) upd_self ?_
  refine spl_cons ?_
  refine sub_rule ?_
  refine ld_cell rfl (by kernel_rfl) (c := L + 1) rfl ((hc.keeps kk).keeps S1.sub) ?_
  refine ld_name S1 n (by kernel_rfl) upd_self ?_
  have hdo : h₁.DictOf (strKind PG w) d kvs := DiO.dictOf ⟨od, S1.sub _ _ (kk _ _ ed), hd⟩
  obtain ⟨u, hu, hul⟩ := value_atG hk (by obtain ⟨_, _, _, _, _, _, z⟩ := id hd; exact z) hsp
  refine ⟨"dict", _, F.slot_dict_getitem.lookup, hdo.typeIs, wpAny_getItem_of (knd := strKind PG w) (k := sp.1) (by simp [PySem.strKind, Value.isStrOf]) hdo.mapOf hu ?_⟩
  refine spl_nil ⟨by show 2 ≤ 1000; omega, h₁, g, _, R', _, rfl, S1, fun a h4 R4 k4 S4 e4 => ?_⟩
  refine ⟨h4, _, R4, _, rfl, k4, S4, ?_⟩
  obtain ⟨as, ra⟩ := (rd_grps hul).up (kk.trans k4)
  exact ⟨_, Reads.tuple e4 rfl rfl (.cons (.str _ _) (.cons ra .nil))⟩

theorem keys_of : ∀ {vs : List Value} {secs all : Secs}, All2 (StrAt R) vs (secs.map (·.1)) → (∀ sp ∈ secs, sp ∈ all) → All2 (KeyV all R) vs secs
  | _, [], _, .nil, _ => .nil
  | _, _ :: _, _, .cons x r, h => .cons ⟨x, h _ (.head _)⟩ (keys_of r fun sp hsp => h sp (.tail _ hsp))

theorem ubody4_eq : (fnAt w 400).body = .stmts [ust w 0, ust w 1, ust w 2, ust w 3] := by with_unfolding_all rfl
set_option maxHeartbeats 4000000 in
theorem due_call {gv : Value} {gs : List (List Pair)} {lets : Bool} {Q : Value → Shared → Prop} (o : Aok 460 A) (T : Stat w mg mb R) (S : St R led h) (hgs : ListAt GrpAt R gv gs) (lenb : gs.length ≤ 400) (hne : ∀ gp ∈ gs, gp ≠ [] ∧ gp.length ≤ 900) (hok : OkG gs)
    (q : ∀ v h' tk' g' R', Sub R R' → St R' led h' → Rd R' v (dRes (run lets gs [] [] false)) → (AllBare g → AllBare g') → Q v ⟨h', g', dr, tk', os⟩) :
    wpAny (MD w) A (PySem.call (.ref 400) [gv, .bool lets]) Q E ⟨h, g, dr, tk, os⟩ := by
  have Xh : (KF w).In h := KIn.up T.K S.sub
  obtain ⟨vals, hvals⟩ : ∃ vals : List Value, vals = [gv, .bool lets] := ⟨_, rfl⟩
  rw [← hvals]
  have hb : BindsTo ⟨h, g, dr, tk, os⟩ (fnAt w 400) ⟨vals, []⟩ [("groups", gv), ("lets", .bool lets)] := by
    rw [hvals]; exact @bindsK w h g dr tk os (fnAt w 400) _ _ Xh (fun S => by kernel_rfl)
  refine callKB (n := 440) (binds := [("groups", gv), ("lets", .bool lets)]) (o.less 460 (by decide)) (T.up S.sub) (by kernel_rfl) (by kernel_rfl) ubody4_eq hb (by kernel_rfl) (by kernel_rfl) (by kernel_rfl) (by kernel_rfl) (by kernel_rfl) ?_
  intro h₁ tk₁ L hsz k₁ hn hnone hcells od
  obtain ⟨hce, hcn⟩ := hcells "sections" (L + 1) (by kernel_rfl)
  obtain ⟨oce, ece, qce⟩ := hce
  have hce' : ∃ o, h₁.get? (L + 1) = some o ∧ CeO none o := ⟨oce, ece, qce⟩
  obtain ⟨oL, eL, qL⟩ := NsO.of hn
  have S1 : St R ((L + 1, CeO none) :: (L, NsO _) :: led) h₁ := St.addMany k₁ (new := [(L + 1, CeO none), (L, NsO _)]) (fun p hp => by
    rcases List.mem_cons.mp hp with rfl | hp
    · exact ⟨hce', hcn⟩
    · cases List.mem_singleton.mp hp
      exact ⟨⟨oL, eL, qL⟩, hnone⟩) (by simp) S
  generalize hm0 : (bindL (envAt w 400 L).kindOf [(("groups" : Str), gv), ("lets", .bool lets)] fun _ => none) = m0 at S1
  have m1 : m0 "groups" = some gv := by rw [← hm0]; kernel_rfl
  have m2 : m0 "lets" = some (.bool lets) := by rw [← hm0]; kernel_rfl
  refine wpAny_execs_cons ?_
  refine Assign_Tuple ?_ (by kernel_rfl) (by kernel_rfl)
  refine e_tuple ?_
  refine spl_cons ?_
  refine e_list ?_
  refine spl_nil ⟨by show 0 ≤ 1000; omega, h₁, g, _, R, _, rfl, S1, fun nl h2 S2 => ?_⟩
  refine spl_cons ?_
  refine wpAny_Dict_empty ?_
  have S3 := S2.push (o := { cls := .type "dict", data := .dict #[] }) (P := DiO w []) DiO.new
  refine spl_cons ?_
  refine Constant_bool ?_
  refine spl_cons ?_
  refine e_list ?_
  refine spl_nil ⟨by show 0 ≤ 1000; omega, _, g, _, R, _, rfl, S3, fun b h4 S4 => ?_⟩
  refine spl_cons ?_
  refine Constant_bool ?_
  refine spl_nil ⟨by show 5 ≤ 1000; omega, h4, g, _, R, _, rfl, S4, fun a h5 R5 k5 S5 ea => ?_⟩
  generalize hsd : h2.objs.size = sd at S3 S4 S5 ea
  refine assign_Tuple_tuple (items := #[.ref nl, .ref sd, .bool false, .ref b, .bool false]) od.hd ⟨_, S5.sub _ _ ea, rfl, 0, rfl⟩ (by kernel_rfl) (by kernel_rfl) fun h6 hx6 => ?_
  have S6 := S5.ext (sub_new hx6)
  refine assignInOrder_cons ?_
  refine st_name S6.f4 (unames L) (by kernel_rfl) fun h7 tk7 S7 => ?_
  refine assignInOrder_cons ?_
  refine wpAny_assign_Name ?_
  refine st_cell (by kernel_rfl) (by kernel_rfl) (by kernel_rfl) S7.f4 fun h8 S8 => ?_
  refine assignInOrder_cons ?_
  refine st_name S8.f1 (unames L) (by kernel_rfl) fun h9 tk9 S9 => ?_
  refine assignInOrder_cons ?_
  refine st_name S9 (unames L) (by kernel_rfl) fun h10 tk10 S10 => ?_
  refine assignInOrder_cons ?_
  refine st_name S10 (unames L) (by kernel_rfl) fun h11 tk11 S11 => ?_
  refine assignInOrder_nil ?_
  -- (L) (L+1) (b) (sd) (nl)
  obtain ⟨R12, k12, S12, ⟨oc, eoc, hoc⟩, _⟩ := S11.f1.freezeHead
  have kk : Sub R R12 := k5.trans k12
  have hc : R12.IsCell (L + 1) (some (.ref sd)) := ⟨oc, eoc, hoc⟩
  have T12 : Stat w mg mb R12 := T.up kk
  have S13 := S12.f1.tail.f2.f1
  refine wpAny_execs_cons ?_
  refine wpAny_For ?_
  refine ld_name S13 (unames L) (by kernel_rfl) (v := gv) ((upd_ne (by decide)).trans ((upd_ne (by decide)).trans ((upd_ne (by decide)).trans ((upd_ne (by decide)).trans m1)))) ?_
  have fin0 : ∀ h' tk' g' R' Y, Sub R12 R' → St R' Y h' → (∀ p ∈ led, p ∈ Y) → (AllBare g → AllBare g') → run lets gs [] [] false = none → Q .none ⟨h', g', dr, tk', os⟩ := fun h' tk' g' R' Y k' S' hY hb' hr => by
    refine q .none h' tk' g' R' (kk.trans k') (S'.sub_led hY S.nd) ?_ hb'
    rw [hr]; exact ⟨_, Reads.none⟩
  refine for_list (V := GrpAt) grp_mono (od.less 340 (by decide)) (InvD w R12 L nl sd lets led (run lets gs [] [] false)) InvD.up T12 S13 (hgs.up grp_mono kk) ?_ ?_ ?_
  · refine ⟨Sub.refl _, _, #[], [], [], [], false, ⟨?_, ?_, upd_self, ?_⟩, ⟨.nil, .nil, fun sp hsp => nomatch hsp⟩, ⟨by rw [List.length_nil]; omega, by rw [List.length_nil]; omega⟩, hne, hok, (fun gp hgp => nomatch hgp), (fun gp hgp => nomatch hgp), rfl, led, rfl, .inl ⟨rfl, rfl⟩⟩
    · exact (upd_ne (by decide)).trans ((upd_ne (by decide)).trans ((upd_ne (by decide)).trans upd_self))
    · exact (upd_ne (by decide)).trans ((upd_ne (by decide)).trans upd_self)
    · exact (upd_ne (by decide)).trans ((upd_ne (by decide)).trans ((upd_ne (by decide)).trans ((upd_ne (by decide)).trans m2)))
  · intro d ds v R' led' tail h' g' tk' hI T' S' hv hb'
    refine wpAny_mono (due_turn (g₀ := g) (QF := fun f s' => match f with | .ret v => Q v s' | _ => False) (od.less 400 (by decide)) hc (fun hr h'' tk'' g'' R'' Y k'' S'' hY hb'' => fin0 h'' tk'' g'' R'' Y k'' S'' hY hb'' hr) hI T' S' hv hb') (fun _ s₂ z => wpAny_mono z (fun f s₃ z => ?_) fun _ _ z => z) fun _ _ z => z
    cases f with
    | next => exact z
    | cont => exact z
    | brk => exact z.elim
    | ret v => exact z
  · rintro Rf led9 hf gf tkf ⟨h0, m, nms, kvs, secs, sec, e, ⟨n1, n2, n3, n4⟩, ⟨hkv, hnm, hno⟩, ⟨hl1, hl2⟩, _, _, hsl, hsok, hrun, ld', rfl, hcase⟩ Tf Sf hbf
    have hled : ∀ p ∈ led, p ∈ ld' := fun p hp => by
      rcases hcase with ⟨_, rfl⟩ | ⟨_, wl, xs, _, rfl, _⟩
      · exact hp
      · exact .tail _ hp
    have none9 : ∀ tk, (insB sec = true ∨ (e = false ∧ lets = false)) → Q .none ⟨hf, gf, dr, tk, os⟩ := fun tk hz => by
      refine fin0 hf tk gf Rf _ h0 Sf (fun p hp => .tail _ (.tail _ (.tail _ (hled p hp)))) hbf ?_
      rw [← hrun]; unfold run
      rcases hz with z | z
      · rw [if_pos z]
      · by_cases z1 : insB sec = true
        · rw [if_pos z1]
        · rw [if_neg z1, if_pos z]
    have some9 : ∀ tk, insB sec = false → ¬ (e = false ∧ lets = false) → ∀ (QQ : Flow → Shared → Prop) EE, (∀ v s', Q v s' → QQ (.ret v) s') → wpAny (MD w) (A.deeper (uenv w L)) (exec (ust w 3) (uenv w L)) QQ EE ⟨hf, gf, dr, tk, os⟩ := fun tk hz1 hz2 QQ EE hQ => by
      have hres : run lets gs [] [] false = some secs := by
        rw [← hrun]; unfold run
        rw [if_neg (by rw [hz1]; decide), if_neg hz2]
      rcases hcase with ⟨_, rfl⟩ | ⟨hz, _⟩
      · obtain ⟨Ra, ka, Sa, ⟨osd, esd, hsd⟩, _⟩ := Sf.f2.freezeHead
        obtain ⟨Rb, kb, Sb, ⟨onl, enl, hnl⟩, _⟩ := Sa.f1.freezeHead
        have Tb : Stat w mg mb Rb := Tf.up (ka.trans kb)
        have hcb : Rb.IsCell (L + 1) (some (.ref sd)) := hc.keeps (h0.trans (ka.trans kb))
        refine wpAny_Return_some ?_
        refine comp_eval (mg := mg) (mb := mb) (rest := (L, NsO m) :: ld') (KeyV secs) SecU some SecD_mono [("sections", L + 1)] (od.less 340 (by decide)) (by kernel_rfl) (by rfl) (by rfl) ?_
        refine ld_name Sb (unames L) (by kernel_rfl) n1 ?_
        refine src_list (V := KeyV secs) keyV_mono Tb Sb ⟨nl, onl, nms.toList, rfl, enl, hnl, keys_of (hnm.mono fun _ _ => str_mono _ _ _ _ (ka.trans kb)) fun _ z => z⟩ (by omega) (turn_due hcb (kb _ _ esd) hsd (hkv.mono fun _ _ => SecG.up (ka.trans kb))) fun h8 => ?_
        intro v9 R10 h10 g10 tk10 k10 S10 hv9 hb10
        obtain rfl := hb10.2 rfl
        rw [filterMap_id] at hv9
        refine hQ _ _ (q v9 h10 tk10 _ R10 (kk.trans (h0.trans ((ka.trans kb).trans k10))) S10.tail ?_ hbf)
        rw [hres]
        exact rd_list (enc := dSec) (fun _ _ z => z) hv9
      · rw [hz1] at hz; cases hz
    refine wpAny_execs_cons ?_
    refine wpAny_If ?_
    refine isTrue_or ?_
    refine wpAny_isTrue_value ?_
    refine ld_name Sf (unames L) (by kernel_rfl) n2 ?_
    refine wpAny_truthy_bool ?_
    cases hi : insB sec with
    | true =>
      rw [if_pos rfl]
      rw [if_pos rfl]
      refine wpAny_execs_cons ?_
      refine wpAny_Return_some ?_
      refine Constant_none ?_
      exact none9 _ (.inl hi)
    | false =>
      rw [if_neg (by decide)]
      refine isTrue_or ?_
      refine isTrue_and ?_
      refine isTrue_not ?_
      refine wpAny_isTrue_value ?_
      refine ld_name Sf (unames L) (by kernel_rfl) n3 ?_
      refine wpAny_truthy_bool ?_
      cases e with
      | true =>
        rw [if_neg (by decide)]
        rw [if_neg (by decide)]
        refine isTrue_or_nil ?_
        rw [if_neg (by decide)]
        refine wpAny_execs_nil ?_
        refine wpAny_execs_cons ?_
        exact some9 _ hi (by simp) _ _ fun v s' z => z
      | false =>
        rw [if_pos (by decide)]
        refine isTrue_and ?_
        refine isTrue_not ?_
        refine wpAny_isTrue_value ?_
        refine ld_name Sf (unames L) (by kernel_rfl) n4 ?_
        refine wpAny_truthy_bool ?_
        cases lets with
        | true =>
          rw [if_neg (by decide)]
          rw [if_neg (by decide)]
          refine isTrue_or_nil ?_
          rw [if_neg (by decide)]
          refine wpAny_execs_nil ?_
          refine wpAny_execs_cons ?_
          exact some9 _ hi (by simp) _ _ fun v s' z => z
        | false =>
          rw [if_pos (by decide)]
          refine isTrue_and_nil ?_
          rw [if_pos rfl]
          rw [if_pos rfl]
          refine wpAny_execs_cons ?_
          refine wpAny_Return_some ?_
          refine Constant_none ?_
          exact none9 _ (.inr ⟨rfl, rfl⟩)
end
end Fw

namespace Fw
open PySem PySem.W PySem.W.X PyProof.Rows PySem.Spec PySem.Calls

theorem compTurn_two0 (elt t0 i0 t1 i1 : Expr) (scope : Scope) (pos : Pos) (it acc : Value) (env : Env) :
    compTurn (.ListComp elt [⟨t0, i0, [], 0⟩, ⟨t1, i1, [], 0⟩] scope pos) 0 it acc env = (standAt i0.pos >>= fun _ => pyNext it >>= fun r => match r with
      | none => pure (.done .next)
      | some v => letOwnedTupleGo t0 it v >>= fun _ => assign t0 env v >>= fun _ =>
        (eval i1 env >>= fun x => standAt i1.pos >>= fun _ => foldedSetIterable i1 env x >>= fun x => holding [x] (pyIter x) >>= fun j => runOwn (.compStart (.ListComp elt [⟨t0, i0, [], 0⟩, ⟨t1, i1, [], 0⟩] scope pos) 1 j acc env) env >>= fun _ =>
          again (.compLoop (.ListComp elt [⟨t0, i0, [], 0⟩, ⟨t1, i1, [], 0⟩] scope pos) 0 it acc env))) := by rfl
theorem compTurn_two1 (elt t0 i0 t1 i1 : Expr) (scope : Scope) (pos : Pos) (it acc : Value) (env : Env) :
    compTurn (.ListComp elt [⟨t0, i0, [], 0⟩, ⟨t1, i1, [], 0⟩] scope pos) 1 it acc env = (standAt i1.pos >>= fun _ => pyNext it >>= fun r => match r with
      | none => pure (.done .next)
      | some v => letOwnedTupleGo t1 it v >>= fun _ => assign t1 env v >>= fun _ =>
        (eval elt env >>= fun x => call (.builtin "list.append") [acc, x] >>= fun _ => pure ()) >>= fun _ =>
          again (.compLoop (.ListComp elt [⟨t0, i0, [], 0⟩, ⟨t1, i1, [], 0⟩] scope pos) 1 it acc env)) := by rfl

section
variable {w : World} {mg mb : Str → Option Value} {A : Around} {E : Value → Shared → Prop} {R h : Heap} {g : Array GenState} {dr : Drawn} {tk : Nat} {os : OsState} {env : Env} {led rest : Led} {δ ε : Type}

abbrev two (p q1 q2 q3 : Pos) (i0 : Expr) (scope : Scope) (pos : Pos) : Expr := .ListComp (.Name "pair" p) [⟨.Name "row" q1, i0, [], 0⟩, ⟨.Name "pair" q2, .Name "row" q3, [], 0⟩] scope pos

/-- the inner turns -/
theorem flat_inner {p q1 q2 q3 : Pos} {i0 : Expr} {scope : Scope} {pos : Pos} {D acc it l : Addr} {lo : Obj} {vs : List Value} {n : Nat} {RR : Result → Shared → Prop} {xs0 : Array Value} (hh : A.handled = none) (nm : Names env D) (hx : env.kindOf "pair" = some .local) (el : R.get? l = some lo) (hlo : lo.data = .seq vs.toArray n)
    (fin : ∀ m h tk, St R ((D, NsO m) :: (acc, LsO (xs0.toList ++ vs).toArray) :: rest) h → RR (.ok .next) ⟨h, g, dr, tk, os⟩)
    {m : Str → Option Value} (S : St R ((D, NsO m) :: (acc, LsO xs0) :: (it, LiO l 0) :: rest) h) (hsz : xs0.size + vs.length ≤ 1000) :
    codeAny (MD w) A (.compLoop (two p q1 q2 q3 i0 scope pos) 1 (.ref it) (.ref acc) env) RR ⟨h, g, dr, tk, os⟩ := by
  refine codeAny_loop rfl (fun k s => ∃ i m xs h tk, k = vs.length - i ∧ s = ⟨h, g, dr, tk, os⟩ ∧ i ≤ vs.length ∧ xs.toList = xs0.toList ++ vs.take i ∧ St R ((D, NsO m) :: (acc, LsO xs) :: (it, LiO l i) :: rest) h) (fun k s hI => ?_) vs.length ⟨0, m, xs0, h, tk, rfl, rfl, Nat.zero_le _, by simp, S⟩
  obtain ⟨i, m, xs, h, tk, rfl, rfl, hi, hxs, S⟩ := hI
  show wpAny _ A ((compTurn (two p q1 q2 q3 i0 scope pos) 1 (.ref it) (.ref acc) env).onRaise (fun x => do noteFrame x env; theTreesLotGoes x)) _ _ _
  refine wpAny_noted ?_
  rw [compTurn_two1]
  refine wpAny_bind (wpAny_standAt (wpAny_bind ?_))
  have hit := S.f2.head
  by_cases hlt : i < vs.length
  · refine next_item (i := i) (by obtain ⟨oi, e, a, b⟩ := hit; exact ⟨oi, e, a, b⟩) (S.sub _ _ el) hlo (x := vs[i]) (by simp [hlt]) fun h₁ hs₁ hi₁ => ?_
    have S1 := (S.f2.ch (P' := LiO l (i + 1)) hs₁.extBut hi₁).f1
    refine wpAny_bind ?_
    refine NoOwn.of (T := "list_iterator") (o := hi₁.choose) hi₁.choose_spec.1 hi₁.choose_spec.2.1 (by decide) _ _ _ _ _ _ _ _ _ ?_
    refine wpAny_bind (st_name S1 nm hx fun h₂ tk₂ S2 => ?_)
    refine wpAny_bind (wpAny_bind ?_)
    refine ld_name S2 nm hx upd_self ?_
    refine wpAny_bind ?_
    have hxl : xs.size = xs0.size + i := by
      have := congrArg List.length hxs
      rw [Array.length_toList, List.length_append, Array.length_toList, List.length_take] at this
      omega
    refine list_append_ls S2.f2.head (fun h₃ hs hp => ?_) (by omega)
    have S3 := S2.f2.ch (P' := LsO (xs.push vs[i])) hs.extBut hp
    refine wpAny_pure (wpAny_pure ⟨rfl, vs.length - (i + 1), by omega, i + 1, _, _, h₃, tk₂, rfl, rfl, hlt, ?_, S3.f1⟩)
    rw [Array.toList_push, hxs, List.append_assoc, List.take_succ_eq_append_getElem hlt]
  · have hie : i = vs.length := by omega
    refine next_end (i := i) hh (by obtain ⟨oi, e, a, b⟩ := hit; exact ⟨oi, e, a, b⟩) (S.sub _ _ el) hlo (by simp; omega) fun h₁ tk₁ hs hi => ?_
    have S1 := S.f2.dropHead hs
    refine wpAny_pure (fin m h₁ tk₁ ?_)
    have e : xs = (xs0.toList ++ vs).toArray := by
      apply Array.toList_inj.mp
      rw [hxs, hie, List.take_length]
    rw [← e]; exact S1

theorem start_two1 {p q1 q2 q3 : Pos} {i0 : Expr} {scope : Scope} {pos : Pos} {it acc : Value} {RR : Result → Shared → Prop} {s : Shared}
    (h0 : codeAny (MD w) A (.compLoop (two p q1 q2 q3 i0 scope pos) 1 it acc env) RR s)
    (h : wpAny (MD w) A (pyIter it) (fun it' s' => codeAny (MD w) A (.compLoop (two p q1 q2 q3 i0 scope pos) 1 it' acc env) RR s') (notedBy (MD w) A env fun x s' => RR (.error x) s') s) :
    codeAny (MD w) A (.compStart (two p q1 q2 q3 i0 scope pos) 1 it acc env) RR s := by
  refine codeAny_of_tree ?_
  show wpAny _ _ ((compStart (two p q1 q2 q3 i0 scope pos) 1 it acc env).onRaise (fun x => do noteFrame x env; standAt theWindowsPlace)) _ _ s
  refine wpAny_notedAt ?_
  unfold compStart
  show wpAny _ _ (ask >>= _) _ _ s
  refine wpAny_bind (wpAny_askSetting (wpAny_ite ?_))
  split
  · first
      | exact wpAny_bind (wpAny_pure (wpAny_pure ⟨rfl, h0⟩))
      | exact wpAny_pure ⟨rfl, h0⟩
  · refine wpAny_bind (wpAny_rule ?_)
    show wpAny _ _ (standAt _ >>= _) _ _ s
    exact wpAny_bind (wpAny_standAt (wpAny_bind (wpAny_mono h (fun it' s' h' => wpAny_pure ⟨rfl, h'⟩) fun _ _ x => x)))

/-- the outer turns -/
theorem flat_outer {p q1 q2 q3 : Pos} {i0 : Expr} {scope : Scope} {pos : Pos} {D acc it l : Addr} {lo : Obj} {vs : List Value} {gs : List (List Pair)} {n : Nat} {RR : Result → Shared → Prop} (hh : A.handled = none) (nm : Names env D) (hx : env.kindOf "pair" = some .local) (hy : env.kindOf "row" = some .local)
    (el : R.get? l = some lo) (hlo : lo.data = .seq vs.toArray n) (al : All2 (GrpAt R) vs gs) (hfl : gs.flatten.length ≤ 900)
    (fin : ∀ m h tk xs, St R ((D, NsO m) :: (acc, LsO xs) :: rest) h → All2 (PairAt R) xs.toList gs.flatten → RR (.ok .next) ⟨h, g, dr, tk, os⟩)
    {m : Str → Option Value} (S : St R ((D, NsO m) :: (acc, LsO #[]) :: (it, LiO l 0) :: rest) h) :
    codeAny (MD w) A (.compLoop (two p q1 q2 q3 i0 scope pos) 0 (.ref it) (.ref acc) env) RR ⟨h, g, dr, tk, os⟩ := by
  have hvl := al.length
  refine codeAny_loop rfl (fun k s => ∃ i m xs h tk, k = vs.length - i ∧ s = ⟨h, g, dr, tk, os⟩ ∧ i ≤ vs.length ∧ All2 (PairAt R) xs.toList (gs.take i).flatten ∧ St R ((D, NsO m) :: (acc, LsO xs) :: (it, LiO l i) :: rest) h) (fun k s hI => ?_) vs.length ⟨0, m, #[], h, tk, rfl, rfl, Nat.zero_le _, .nil, S⟩
  obtain ⟨i, m, xs, h, tk, rfl, rfl, hi, hxs, S⟩ := hI
  show wpAny _ A ((compTurn (two p q1 q2 q3 i0 scope pos) 0 (.ref it) (.ref acc) env).onRaise (fun x => do noteFrame x env; theTreesLotGoes x)) _ _ _
  refine wpAny_noted ?_
  rw [compTurn_two0]
  refine wpAny_bind (wpAny_standAt (wpAny_bind ?_))
  have hit := S.f2.head
  by_cases hlt : i < vs.length
  · refine next_item (i := i) (by obtain ⟨oi, e, a, b⟩ := hit; exact ⟨oi, e, a, b⟩) (S.sub _ _ el) hlo (x := vs[i]) (by simp [hlt]) fun h₁ hs₁ hi₁ => ?_
    have S1 := (S.f2.ch (P' := LiO l (i + 1)) hs₁.extBut hi₁).f1
    have hig : i < gs.length := by omega
    obtain ⟨v, ev, ga, go, gvs, hga, ega, ⟨gn, rfl⟩, gal⟩ := al.get (List.getElem?_eq_getElem hig)
    have hv : vs[i] = v := by rw [List.getElem?_eq_getElem hlt] at ev; exact Option.some.inj ev
    rw [hv, hga]
    refine wpAny_bind ?_
    refine NoOwn.of (T := "list_iterator") (o := hi₁.choose) hi₁.choose_spec.1 hi₁.choose_spec.2.1 (by decide) _ _ _ _ _ _ _ _ _ ?_
    refine wpAny_bind (st_name S1 nm hy fun h₂ tk₂ S2 => ?_)
    refine wpAny_bind ?_
    refine ld_name S2 nm hy upd_self ?_
    refine wpAny_bind (wpAny_standAt ?_)
    refine wpAny_bind (wpAny_of_eq (a := .ref ga) rfl ?_)
    refine wpAny_bind (wpAny_holding ?_)
    refine wpAny_pyIter_list (LsO.isList ⟨_, S2.sub _ _ ega, gn, rfl⟩) ?_
    have S3 := S2.push (o := { cls := .type "list_iterator", data := .fields #[.ref ga, .int 0 0] }) (P := LiO ga 0) ⟨rfl, rfl⟩
    refine wpAny_bind (wpAny_runOwn ?_)
    rw [Around.mark_none]
    have hxl := hxs.length
    rw [Array.length_toList] at hxl
    have htk : (gs.take (i + 1)).flatten = (gs.take i).flatten ++ gs[i] := by
      rw [List.take_succ_eq_append_getElem hig, List.flatten_append]; simp
    have hle : (gs.take (i + 1)).flatten.length ≤ gs.flatten.length := by
      have := congrArg (fun l => l.flatten.length) (List.take_append_drop (i + 1) gs)
      simp only [List.flatten_append, List.length_append] at this
      omega
    have hgl := gal.length
    rw [htk, List.length_append] at hle
    have inner : ∀ tk, codeAny (MD w) A (.compLoop (two p q1 q2 q3 i0 scope pos) 1 (.ref h₂.objs.size) (.ref acc) env) (fun r s' => match r with
        | .ok f => wpAny (MD w) A (again (.compLoop (two p q1 q2 q3 i0 scope pos) 0 (.ref it) (.ref acc) env)) (fun fin s' => match fin with
          | .done f => RR (.ok f) s'
          | .again c' => c' = .compLoop (two p q1 q2 q3 i0 scope pos) 0 (.ref it) (.ref acc) env ∧ ∃ m, m < vs.length - i ∧ ∃ i m' xs h tk, m = vs.length - i ∧ s' = ⟨h, g, dr, tk, os⟩ ∧ i ≤ vs.length ∧ All2 (PairAt R) xs.toList (gs.take i).flatten ∧ St R ((D, NsO m') :: (acc, LsO xs) :: (it, LiO l i) :: rest) h)
          (notedBy (MD w) A env fun e s' => RR (.error e) s') s'
        | .error e => cameBackBy (MD w) A env (notedBy (MD w) A env fun e s' => RR (.error e) s') e s') ⟨h₂.push { cls := .type "list_iterator", data := .fields #[.ref ga, .int 0 0] }, g, dr, tk, os⟩ := fun tk => by
      refine flat_inner (vs := gvs) (rest := (it, LiO l (i + 1)) :: rest) hh nm hx ega rfl (fun m' h5 tk5 S5 => ?_) (xs0 := xs) (S3.f3.f2) (by omega)
      refine wpAny_pure ⟨rfl, vs.length - (i + 1), by omega, i + 1, m', _, h5, tk5, rfl, rfl, hlt, ?_, S5⟩
      rw [htk]
      exact All2.append gal hxs
    refine start_two1 (inner _) ?_
    exact wpAny_pyIter_listiter (by obtain ⟨oi, e, a, b⟩ := S3.head; exact ⟨oi, e, a, b⟩) (inner _)
  · have hie : i = vs.length := by omega
    refine next_end (i := i) hh (by obtain ⟨oi, e, a, b⟩ := hit; exact ⟨oi, e, a, b⟩) (S.sub _ _ el) hlo (by simp; omega) fun h₁ tk₁ hs hi => ?_
    have S1 := S.f2.dropHead hs
    refine wpAny_pure (fin m h₁ tk₁ xs S1 ?_)
    rw [hie, hvl, List.take_length] at hxs
    exact hxs

def flatScope : Scope := { kind := .function, names := [(".0", .local), ("row", .local), ("pair", .local)], isGenerator := false, isCoroutine := false }
/-- `[pair for row in rows for pair in row]` -/
theorem flat_eval {p q1 q2 q3 q5 : Pos} {pos : Pos} {L : Addr} {m : Str → Option Value} {rv : Value} {gs : List (List Pair)} {Q : Value → Shared → Prop} (o : Aok 340 A) (S : St R ((L, NsO m) :: led) h) (nm : Names env L) (hx : env.kindOf "rows" = some .local) (hm : m "rows" = some rv)
    (hrv : ListAt GrpAt R rv gs) (hfl : gs.flatten.length ≤ 900) (hclos : closureFor flatScope env = pure [])
    (q : ∀ v R' h' tk', Sub R R' → St R' ((L, NsO m) :: led) h' → ListAt PairAt R' v gs.flatten → Q v ⟨h', g, dr, tk', os⟩) :
    wpAny (MD w) A (eval (two p q1 q2 q3 (.Name "rows" q5) flatScope pos) env) Q E ⟨h, g, dr, tk, os⟩ := by
  obtain ⟨hcell, hnames⟩ := names_ok (l := flatScope.names) (by decide)
  rw [eval_ListComp]
  refine wpAny_comprehension_free (use := none) rfl (fun _ => rfl) hclos rfl hnames ?_
  refine ld_name S nm hx hm ?_
  obtain ⟨l, lo, vs, rfl, el, ⟨n, rfl⟩, al⟩ := hrv
  refine wpAny_pyIter_list (LsO.isList ⟨_, S.sub _ _ el, n, rfl⟩) ?_
  have S0 := S.push (o := { cls := .type "list_iterator", data := .fields #[.ref l, .int 0 0] }) (P := LiO l 0) ⟨rfl, rfl⟩
  generalize hit : h.objs.size = it at S0 ⊢
  generalize hh₀ : h.push { cls := .type "list_iterator", data := .fields #[.ref l, .int 0 0] } = h₀ at S0 ⊢
  refine wpAny_newObj_type (hd := by size_fits) ?_
  refine wpAny_newFunctionEnv hcell (by intro y hy; cases hy) (fun h' hn hs => ?_) rfl
  have S1 := S0.push (o := { cls := .type "list", data := .seq #[] }) (P := LsO #[]) (LsO.new #[])
  generalize hh₁ : (h₀.push _ : Heap) = h₁ at hn hs S1 ⊢
  have hk : Sub h₁ h' := fun b o' e => hs.extBut b o' (Nat.ne_of_lt (Heap.lt_size e)) (Heap.get?_push_of_some _ e)
  have hnone : h₁.get? h₁.objs.size = none := by
    cases q : h₁.get? h₁.objs.size with
    | none => rfl
    | some o => exact absurd (Heap.lt_size q) (Nat.lt_irrefl _)
  obtain ⟨fo, efo, qfo⟩ := NsO.of hn
  have S2 := S1.addNew (P := NsO _) hk efo hnone qfo
  have loop : ∀ tk, codeAny (MD w) A (.compLoop (two p q1 q2 q3 (.Name "rows" q5) flatScope pos) 0 (.ref it) (.ref h₀.objs.size) (compEnvC flatScope [] h₁.objs.size env)) (compPost (MD w) A E none Q (.ref h₀.objs.size) (compEnvC flatScope [] h₁.objs.size env).locals) ⟨h', g, dr, tk, os⟩ := fun tk => by
    refine flat_outer o.hd (names_comp nm rfl) rfl rfl el rfl al hfl (fun m' h5 tk5 xs S5 hxs => ?_) S2
    refine ⟨m', NsO.ns S5.head, fun h'' hs'' => ?_⟩
    have S6 := S5.dropHead hs''.extBut
    obtain ⟨R'', k'', S7, ⟨oo, eo, qo⟩, _⟩ := S6.freezeHead
    exact q _ R'' h'' tk5 k'' S7 ⟨_, oo, xs.toList, rfl, eo, qo, hxs.mono fun _ _ => PairAt.up k''⟩
  refine codeAny_compStart_list (loop _) ?_
  have S3 := S2.f2
  exact wpAny_pyIter_listiter (by obtain ⟨oi, e, a, b⟩ := S3.head; exact ⟨oi, e, a, b⟩) (loop _)
end
end Fw

namespace Fw
open PySem PySem.W PySem.W.X PyProof.Rows PySem.Spec PySem.Calls

theorem All2.with {α β : Type} {P : α → β → Prop} {C : β → Prop} : ∀ {as : List α} {bs : List β}, All2 P as bs → (∀ b ∈ bs, C b) → All2 (fun a b => P a b ∧ C b) as bs
  | _, _, .nil, _ => .nil
  | _, _, .cons h r, k => .cons ⟨h, k _ (.head _)⟩ (r.with fun b hb => k b (.tail _ hb))

section
variable {w : World} {mg mb : Str → Option Value} {A : Around} {E : Value → Shared → Prop} {R h : Heap} {g : Array GenState} {dr : Drawn} {tk : Nat} {os : OsState} {env : Env} {led rest : Led} {δ ε : Type}

def TiO (t : Addr) (i : Nat) (o : Obj) : Prop := o.cls = .type "tuple_iterator" ∧ o.data = .fields #[.ref t, .int i 0]
theorem itr_tup {V : Heap → Value → δ → Prop} (Vm : ∀ R R' v d, Sub R R' → V R v d → V R' v d) {it t : Addr} : ∀ {ds : List δ} {i : Nat} {R : Heap} {vs : List Value} {o : Obj} {n : Nat},
    R.get? t = some o → o = { cls := .type "tuple", data := .seq vs.toArray n } → All2 (V R) (vs.drop i) ds → Itr w mg mb true V (.ref it) ds R [(it, TiO t i)] fun _ => True
  | [], i, R, vs, o, n, e, d, x => fun A R2 rest h g dr tk os Q E oA k T S _ q => by
    obtain ⟨oi, e1, a, b⟩ := S.head
    refine next_tuple_end (i := i) oA.hd ⟨oi, e1, a, b⟩ (items := vs.toArray) ⟨o, S.sub _ _ (k _ _ e), by rw [d], n, by rw [d]⟩ ?_ fun h₁ hs => ?_
    · have := x.length
      rw [List.length_drop, List.length_nil] at this
      simp; omega
    · exact q h₁ tk R2 g (Sub.refl _) (S.dropHead hs) .refl
  | dd :: ds, i, R, vs, o, n, e, d, x => fun A R2 rest h g dr tk os Q E oA k T S _ q => by
    obtain ⟨oi, e1, a, b⟩ := S.head
    cases hdr : vs.drop i with
    | nil => rw [hdr] at x; cases x
    | cons v vs' =>
      rw [hdr] at x
      cases x with
      | cons hv hx =>
        have hvi : vs[i]? = some v := by
          have := congrArg List.head? hdr
          rwa [List.head?_drop] at this
        have hdr' : vs.drop (i + 1) = vs' := by rw [← List.drop_drop, hdr]; rfl
        refine next_tuple_item (i := i) ⟨oi, e1, a, b⟩ (items := vs.toArray) ⟨o, S.sub _ _ (k _ _ e), by rw [d], n, by rw [d]⟩ (x := v) (by simpa using hvi) fun h₁ hi₁ hs₁ => ?_
        obtain ⟨o1, f1, a1, b1⟩ := hi₁
        have S1 := S.ch (P' := TiO t (i + 1)) hs₁.extBut ⟨o1, f1, a1, b1⟩
        exact q v h₁ tk R2 g [(it, TiO t (i + 1))] _ (Sub.refl _) S1 .refl (Vm _ _ _ _ k hv) trivial (fun _ _ => trivial) (NoOwn.of f1 a1 (by decide)) (itr_tup Vm (k _ _ e) d (by rw [hdr']; exact hx.mono fun _ _ => Vm _ _ _ _ k))

/-- a loop over a literal tuple -/
theorem for_tup {V : Heap → Value → δ → Prop} (Vm : ∀ R R' v d, Sub R R' → V R v d → V R' v d) {t : Addr} {vs : List Value} {ds : List δ} {target : Expr} {body : List Stmt} {RR : Result → Shared → Prop} (o : Aok 340 A)
    (Inv : List δ → Heap → Led → Prop) (Im : ∀ ds R R' led, Sub R R' → Inv ds R led → Inv ds R' led) (T : Stat w mg mb R) (S : St R led h) (et : R.get? t = some { cls := .type "tuple", data := .seq vs.toArray }) (X : All2 (V R) vs ds) (hI : Inv ds R led)
    (turn : ∀ d ds v R led tail h g' tk, Inv (d :: ds) R led → Stat w mg mb R → St R (led ++ tail) h → V R v d → (AllBare g → AllBare g') →
      wpAny (MD w) A (assign target env v) (fun _ s₂ => wpAny (MD w) A (execs body env) (fun f s₃ => match f with
        | .next | .cont => ∃ h' g'' tk' R' led', s₃ = ⟨h', g'', dr, tk', os⟩ ∧ Sub R R' ∧ St R' (led' ++ tail) h' ∧ Inv ds R' led' ∧ (g'' = g' ∨ true = true) ∧ (AllBare g' → AllBare g'')
        | .brk => RR (.ok .next) s₃
        | .ret v => RR (.ok (.ret v)) s₃) (notedBy (MD w) A env fun e s' => RR (.error e) s') s₂) (notedBy (MD w) A env fun e s' => RR (.error e) s') ⟨h, g', dr, tk, os⟩)
    (fin : ∀ R led h g' tk, Inv [] R led → Stat w mg mb R → St R led h → (AllBare g → AllBare g') → RR (.ok .next) ⟨h, g', dr, tk, os⟩)
    (ht : ∀ it v, letOwnedTupleGo target it v = pure () := by intro _ _; rfl) : wpAny (MD w) A (pyIter (.ref t)) (fun it s₂ => codeAny (MD w) A (.forLoop target it body [] env) RR s₂) E ⟨h, g, dr, tk, os⟩ := by
  refine iter_tuple (items := vs.toArray) ⟨_, S.sub _ _ et, rfl, 0, rfl⟩ ?_
  exact for_rule (g₀ := g) o Inv Im turn fin T (S.push (o := { cls := .type "tuple_iterator", data := .fields #[.ref t, .int 0 0] }) (P := TiO t 0) ⟨rfl, rfl⟩) (itr_tup Vm et rfl (by rw [List.drop_zero]; exact X)) trivial hI (fun b => b) (ht _)

theorem e_listF {elts : List Expr} {pos : Pos} {Q : Value → Shared → Prop}
    (q : wpAny (MD w) A (spliced (backTo pos (starEach elts env))) (fun vs s₁ => vs.length ≤ 1000 ∧ ∃ h₁ g₁ tk₁ R led, s₁ = ⟨h₁, g₁, dr, tk₁, os⟩ ∧ St R led h₁ ∧
      ∀ a h' R' oo, Sub R R' → St R' led h' → R'.get? a = some oo → LsO vs.toArray oo → Q (.ref a) ⟨h', g₁, dr, tk₁, os⟩) E ⟨h, g, dr, tk, os⟩) : wpAny (MD w) A (eval (.List elts pos) env) Q E ⟨h, g, dr, tk, os⟩ := by
  refine e_list (wpAny_mono q (fun vs s₁ z => ?_) fun _ _ z => z)
  obtain ⟨hl, h₁, g₁, tk₁, R, led, rfl, S, z⟩ := z
  refine ⟨hl, h₁, g₁, tk₁, R, led, rfl, S, fun a h' S' => ?_⟩
  obtain ⟨R', kR, S'', ⟨oo, eo, ho⟩, _⟩ := S'.freezeHead
  exact z a h' R' oo kR S'' eo ho
/-- a literal group of one pair -/
theorem e_grp1 {c : Int} {x : Str} {k1 k2 : Nat} {p1 p2 p3 p4 : Pos} {x1} {Q : Value → Shared → Prop} (S : St R led h) (q : ∀ v h' tk' R', Sub R R' → St R' led h' → GrpAt R' v [(c, x)] → Q v ⟨h', g, dr, tk', os⟩) :
    wpAny (MD w) A (eval (.List [.Tuple [.Constant (.int c) k1 p1, .Constant (.str x) k2 p2] x1 p3] p4) env) Q E ⟨h, g, dr, tk, os⟩ := by
  refine e_listF ?_
  refine spl_cons ?_
  refine e_pair S fun v h1 tk1 R1 k1 S1 hv => ?_
  refine spl_nil ⟨by show 1 ≤ 1000; omega, h1, g, tk1, R1, _, rfl, S1, fun a h2 R2 oo k2 S2 e2 l2 => ?_⟩
  exact q (.ref a) h2 tk1 R2 (k1.trans k2) S2 ⟨a, oo, [v], rfl, e2, l2, .cons (hv.up k2) .nil⟩
theorem add_lists {W : Heap → Value → ε → Prop} (Wm : ∀ R R' v d, Sub R R' → W R v d → W R' v d) {u v : Value} {es fs : List ε} {Q : Value → Shared → Prop} (S : St R led h) (hu : ListAt W R u es) (hv : ListAt W R v fs) (hsz : es.length + fs.length ≤ 1000)
    (q : ∀ a h' R', Sub R R' → St R' led h' → ListAt W R' a (es ++ fs) → Q a ⟨h', g, dr, tk, os⟩) : wpAny (MD w) A (binaryOp .Add u v) Q E ⟨h, g, dr, tk, os⟩ := by
  obtain ⟨a, oa, xs, rfl, ea, ⟨n, rfl⟩, al⟩ := hu
  obtain ⟨b, ob, ys, rfl, eb, ⟨n', rfl⟩, bl⟩ := hv
  have h1 := al.length
  have h2 := bl.length
  refine o_addl S (S.sub _ _ ea) (S.sub _ _ eb) (by rw [List.size_toArray, List.size_toArray]; omega) fun c h3 S3 => ?_
  obtain ⟨R4, k4, S4, ⟨oo, eo, ho⟩, _⟩ := S3.freezeHead
  refine q (.ref c) h3 R4 k4 S4 ⟨c, oo, xs ++ ys, rfl, eo, ?_, ?_⟩
  · have e : xs.toArray ++ ys.toArray = (xs ++ ys).toArray := by simp
    rw [e] at ho; exact ho
  · exact All2.append (bl.mono fun _ _ => Wm _ _ _ _ k4) (al.mono fun _ _ => Wm _ _ _ _ k4)

def keepF (gp : List Pair) : Option (List Pair) := match gp with
  | [] => none
  | p :: _ => if ([("SECTION" : Str), ("ENDSEC" : Str)].any (· = p.2)) = true then none else some gp
def rowScope : Scope := { kind := .function, names := [(".0", .local), ("row", .local)], isGenerator := false, isCoroutine := false }
def GrpOk (R : Heap) (v : Value) (gp : List Pair) : Prop := GrpAt R v gp ∧ gp ≠ [] ∧ OkP gp
theorem grpOk_mono : ∀ R R' v d, Sub R R' → GrpOk R v d → GrpOk R' v d := fun _ _ _ _ k x => ⟨GrpAt.up k x.1, x.2⟩

theorem turn_keep {p1 p2 p3 p4 p5 p6 p7 p8 p9 q1 q2 : Pos} {k1 k2 k3 k4 : Nat} {x1} (e : Env0 env) (o : Aok 100 A) :
    Turn w mg mb A dr os GrpOk GrpAt keepF (.Name "row" p1) (.Name "row" p2) [.Compare (.Subscript (.Subscript (.Name "row" p3) (.Constant (.int 0) k1 p4) p5) (.Constant (.int 1) k2 p6) p7) [.NotIn] [.Tuple [.Constant (.str "SECTION") k3 p8, .Constant (.str "ENDSEC") k4 p9] x1 q1] q2] (fun D => compEnvC rowScope [] D env) R := by
  intro D gp v R' m tail h g tk E' kk T S hv
  obtain ⟨hv, hne, hok⟩ := hv
  have n : Names (compEnvC rowScope [] D env) D := ⟨rfl, e.glo, rfl⟩
  cases gp with
  | nil => exact absurd rfl hne
  | cons p ps =>
    have okp : PyData.strOk p.2 = true := hok _ (.head _)
    refine st_name S n rfl fun h₁ tk₁ S1 => ?_
    refine wpAny_tests_one ?_
    refine wpAny_isTrue_Compare1 ?_
    refine sub_rule ?_
    refine sub_rule ?_
    refine ld_name S1 n rfl upd_self ?_
    refine k_int fun t2 tk2 => ?_
    obtain ⟨a, xs, rfl, hl, al⟩ := ListAt.isList S1 hv
    obtain ⟨u, eu, pa, t3, t4, pn, rfl, ep⟩ := al.get (i := 0) rfl
    refine item_list hl (by omega) (by omega) (x := .ref pa) (by simpa using eu) ?_
    refine k_int fun t5 tk5 => ?_
    refine item_tup ⟨_, S1.sub _ _ ep, rfl, pn, rfl⟩ (by omega) (by omega) (x := .str p.2 t4) rfl ?_
    refine e_tuple ?_
    refine spl_cons ?_
    refine k_str fun t6 tk6 => ?_
    refine spl_cons ?_
    refine k_str fun t7 tk7 => ?_
    refine spl_nil ⟨by show 2 ≤ 1000; omega, h₁, g, tk7, R', _, rfl, S1, fun b h8 R8 k8 S8 e8 => ?_⟩
    have rc : Reads h8 (.ref b) (.tuple [.str "SECTION", .str "ENDSEC"]) _ := Reads.tuple (S8.sub _ _ e8) rfl rfl (.cons (.str _ _) (.cons (.str _ _) .nil))
    have hs : Shp 1 (.tuple [.str "SECTION", .str "ENDSEC"]) := Shp.tuple fun x hx => by
      rcases List.mem_cons.mp hx with rfl | hx
      · exact shp_str (by decide +kernel)
      · cases List.mem_singleton.mp hx; exact shp_str (by decide +kernel)
    have hsa := hs.1
    rw [PyData.canLay0] at hsa
    refine SeqAt.notIn_tuple_reads (d := .str p.2) rc (Reads.str _ _) hsa (shp_str okp).1 ?_ ?_
    · have := (shp_str okp).2
      have := o.un
      show A.units + 1 + min _ (PyData.depth (.str p.2)) < 9900
      omega
    have hany : ([PyData.str "SECTION", .str "ENDSEC"].any fun y => PyData.eqv y (.str p.2)) = [("SECTION" : Str), ("ENDSEC" : Str)].any (· = p.2) := eqv_any [("SECTION" : Str), ("ENDSEC" : Str)] p.2
    rw [hany]
    refine wpAny_truthy_bool ?_
    unfold keepF
    dsimp only
    by_cases hk : ([("SECTION" : Str), ("ENDSEC" : Str)].any (· = p.2)) = true
    · rw [if_pos hk]
      exact ⟨by rw [hk]; rfl, h8, tk7, R8, _, rfl, k8, S8⟩
    · rw [if_neg hk]
      refine ⟨by rw [Bool.not_eq_true] at hk; rw [hk]; rfl, ?_⟩
      refine ld_name S8 n rfl upd_self ?_
      exact ⟨h8, tk7, R8, _, rfl, k8, S8, GrpAt.up k8 hv⟩
end
end Fw

namespace Fw
open PySem PySem.W PySem.W.X PyProof.Rows PySem.Spec PySem.Calls

structure Good (gs : List (List Pair)) : Prop where
  regroup : emit 0 none gs.flatten = gs
  len : gs.length ≤ 100
  flen : gs.flatten.length ≤ 100
  ne : ∀ gp ∈ gs, gp ≠ [] ∧ gp.length ≤ 900
  ok : OkG gs
theorem Good.okp {gs : List (List Pair)} (x : Good gs) : OkP gs.flatten := fun p hp => by
  obtain ⟨gp, hgp, hpg⟩ := List.mem_flatten.mp hp
  exact x.ok gp hgp p hpg
theorem Shp.mono {n m : Nat} {d : PyData} (x : Shp n d) (h : n ≤ m) : Shp m d := ⟨x.1, Nat.le_trans x.2 h⟩
theorem shp_res {lets : Bool} {gs : List (List Pair)} (hok : OkG gs) : Shp 5 (dRes (run lets gs [] [] false)) := by
  cases hr : run lets gs [] [] false with
  | none => exact ⟨by show PyData.canLay0 .none = true; rw [PyData.canLay0], by show PyData.depth .none ≤ 5; rw [PyData.depth]; omega⟩
  | some secs =>
    have hs := run_ok gs [] [] false hok (fun sp hsp => nomatch hsp) (fun gp hgp => nomatch hgp) (fun sp hsp => nomatch hsp) hr
    refine Shp.list fun x hx => ?_
    obtain ⟨sp, hsp, rfl⟩ := List.mem_map.mp hx
    refine Shp.tuple (n := 3) fun y hy => ?_
    rcases List.mem_cons.mp hy with rfl | hy
    · exact (shp_str (hs sp hsp).2).mono (by decide)
    · cases List.mem_singleton.mp hy
      exact shp_grps (hs sp hsp).1

section
variable {w : World} {mg mb : Str → Option Value} {A : Around} {E : Value → Shared → Prop} {R h : Heap} {g : Array GenState} {dr : Drawn} {tk : Nat} {os : OsState} {env : Env} {led rest : Led} {δ ε : Type}

noncomputable def linner (w : World) : Stmt := (forB (lst w 10)).headD default

set_option maxHeartbeats 2000000 in
theorem law10_body {L : Addr} {rv : Value} {gs : List (List Pair)} {lets : Bool} {m : Str → Option Value} {ps : Array Value} {Q : Flow → Shared → Prop} (o : Aok 520 A) (T : Stat w mg mb R) (S : St R ((L, NsO m) :: (378, TabO ps) :: led) h) (ht : Tab2 w R ps) (hfr : A.frames = some [lenv w L])
    (hm : m "rows" = some rv) (hb : m "lets" = some (.bool lets)) (hrv : ListAt GrpAt R rv gs) (hg : Good gs)
    (q : ∀ h' tk' g' R' ps', Sub R R' → Tab2 w R' ps' → St R' ((L, NsO m) :: (378, TabO ps') :: led) h' → (AllBare g → AllBare g') → Q .next ⟨h', g', dr, tk', os⟩) :
    wpAny (MD w) A (execs (forB (linner w)) (lenv w L)) Q E ⟨h, g, dr, tk, os⟩ := by
  refine wpAny_execs_cons ?_
  refine wpAny_If ?_
  refine wpAny_isTrue_Compare1 ?_
  refine wpAny_Call_ofName ?_
  refine ld_global (T.up S.sub) (v := .ref 395) (by kernel_rfl) ?_ (by kernel_rfl) (by kernel_rfl) (by kernel_rfl)
  refine callWith_K T.K (by kernel_rfl) ?_
  refine spl_cons ?_
  refine flat_eval (o.less 340 (by decide)) S (lnames L) (by kernel_rfl) hm hrv (by have := hg.flen; omega) (by rfl) fun v R1 h1 tk1 k1 S1 hv => ?_
  refine spl_cons ?_
  refine ld_name S1 (lnames L) (by kernel_rfl) hb ?_
  refine spl_nil ⟨KIn.up T.K (k1.trans S1.sub), ?_⟩
  have hO : Outer [lenv w L] ((L, NsO m) :: led) := fun x hx => by
    cases List.mem_singleton.mp hx
    exact ⟨by rw [(lnames (w := w) L).fn]; decide, L, m, rfl, .head _⟩
  refine told_call (outer := [lenv w L]) (o.less 500 (by decide)) (T.up k1) S1.f1 (ht.up k1) hv hg.flen hg.okp hfr hO fun u h2 tk2 g2 R2 ps2 k2 ht2 S2 hu hb2 => ?_
  rw [hg.regroup] at hu
  refine wpAny_Call_ofName ?_
  refine ld_global ((T.up (k1.trans k2)).up S2.sub) (v := .ref 400) (by kernel_rfl) ?_ (by kernel_rfl) (by kernel_rfl) (by kernel_rfl)
  refine callWith_K T.K (by kernel_rfl) ?_
  refine spl_cons ?_
  refine ld_name S2.f1 (lnames L) (by kernel_rfl) hm ?_
  refine spl_cons ?_
  refine ld_name S2.f1 (lnames L) (by kernel_rfl) hb ?_
  refine spl_nil ⟨KIn.up T.K ((k1.trans k2).trans S2.sub), ?_⟩
  refine due_call (o.less 460 (by decide)) (T.up (k1.trans k2)) S2.f1 (hrv.up grp_mono (k1.trans k2)) (by have := hg.len; omega) hg.ne hg.ok fun v3 h3 tk3 g3 R3 k3 S3 hv3 hb3 => ?_
  refine ne_same (o.less 100 (by decide)) ((hu.up k3).up S3.sub) (hv3.up S3.sub) (shp_res hg.ok) (by decide) ?_
  refine wpAny_truthy_bool ?_
  rw [if_neg Bool.false_ne_true]
  refine wpAny_execs_nil ?_
  refine wpAny_execs_nil ?_
  exact q h3 tk3 g3 R3 ps2 (k1.trans (k2.trans k3)) (ht2.up k3) S3 fun b => hb3 (hb2 b)
end
end Fw

namespace Fw
open PySem PySem.W PySem.W.X PyProof.Rows PySem.Spec PySem.Calls

def eofRow : List (List Pair) := [[(0, "EOF")]]
def xRows : List (List Pair) := [[(0, "SECTION"), (2, "B"), (1, "x")], [(0, "LINE")], [(0, "ENDSEC")]]
section
variable {w : World} {mg mb : Str → Option Value} {A : Around} {E : Value → Shared → Prop} {R h : Heap} {g : Array GenState} {dr : Drawn} {tk : Nat} {os : OsState} {env : Env} {led rest : Led} {δ ε : Type}

def InvO (w : World) (R₀ : Heap) (L : Addr) (led : Led) {δ : Type} (_ : List δ) (R : Heap) (ld : Led) : Prop := Sub R₀ R ∧ ∃ m ps, ld = (L, NsO m) :: (378, TabO ps) :: led ∧ Tab2 w R ps
theorem InvO.up {R₀ : Heap} {L : Addr} {led : Led} : ∀ (ds : List δ) R R' ld, Sub R R' → InvO w R₀ L led ds R ld → InvO w R₀ L led ds R' ld := by
  rintro ds R R' ld k ⟨h0, m, ps, e, ht⟩
  exact ⟨h0.trans k, m, ps, e, ht.up k⟩
def InvI (w : World) (R₀ : Heap) (L : Addr) (led : Led) (rv : Value) (gs : List (List Pair)) {δ : Type} (_ : List δ) (R : Heap) (ld : Led) : Prop := Sub R₀ R ∧ ∃ m ps, ld = (L, NsO m) :: (378, TabO ps) :: led ∧ Tab2 w R ps ∧ m "rows" = some rv ∧ ListAt GrpAt R rv gs
theorem InvI.up {R₀ : Heap} {L : Addr} {led : Led} {rv : Value} {gs : List (List Pair)} : ∀ (ds : List δ) R R' ld, Sub R R' → InvI w R₀ L led rv gs ds R ld → InvI w R₀ L led rv gs ds R' ld := by
  rintro ds R R' ld k ⟨h0, m, ps, e, ht, e2, e3⟩
  exact ⟨h0.trans k, m, ps, e, ht.up k, e2, e3.up grp_mono k⟩
def BoolV (_ : Heap) (v : Value) (b : Bool) : Prop := v = .bool b
def RowsV (R : Heap) (v : Value) (gs : List (List Pair)) : Prop := ListAt GrpAt R v gs ∧ Good gs
theorem rowsV_mono : ∀ R R' v d, Sub R R' → RowsV R v d → RowsV R' v d := fun _ _ _ _ k x => ⟨x.1.up grp_mono k, x.2⟩

set_option maxHeartbeats 2000000 in
theorem law_10 {L : Addr} {gv : Value} {gs : List (List Pair)} {m : Str → Option Value} {ps : Array Value} {Q : Flow → Shared → Prop} (o : Aok 520 A) (T : Stat w mg mb R) (S : St R ((L, NsO m) :: (378, TabO ps) :: led) h) (ht : Tab2 w R ps) (hfr : A.frames = some [lenv w L])
    (hm : m "groups" = some gv) (hgv : ListAt GrpAt R gv gs) (hne : ∀ gp ∈ gs, gp ≠ []) (hok : OkG gs) (hlen : gs.length ≤ 100) (hg1 : Good gs) (hg2 : Good (gs ++ eofRow)) (hg3 : Good (gs.filterMap keepF ++ xRows))
    (q : ∀ h' tk' g' R' m' ps', Sub R R' → St R' ((L, NsO m') :: (378, TabO ps') :: led) h' → (AllBare g → AllBare g') → Q .next ⟨h', g', dr, tk', os⟩) :
    wpAny (MD w) A (exec (lst w 10) (lenv w L)) Q E ⟨h, g, dr, tk, os⟩ := by
  refine wpAny_For ?_
  refine e_tuple ?_
  refine spl_cons ?_
  refine ld_name S (lnames L) (by kernel_rfl) hm ?_
  refine spl_cons ?_
  refine wpAny_BinOp ?_
  refine ld_name S (lnames L) (by kernel_rfl) hm ?_
  refine e_listF ?_
  refine spl_cons ?_
  refine e_grp1 S fun v1 h1 tk1 R1 k1 S1 hv1 => ?_
  refine spl_nil ⟨by show 1 ≤ 1000; omega, h1, g, tk1, R1, _, rfl, S1, fun a2 h2 R2 oo2 k2 S2 e2 l2 => ?_⟩
  have k02 : Sub R R2 := k1.trans k2
  refine add_lists grp_mono S2 (hgv.up grp_mono k02) (fs := eofRow) ⟨a2, oo2, [v1], rfl, e2, l2, .cons (GrpAt.up k2 hv1) .nil⟩ (by show gs.length + 1 ≤ 1000; omega) fun a3 h3 R3 k3 S3 hv3 => ?_
  refine spl_cons ?_
  refine wpAny_BinOp ?_
  refine comp_eval (mg := mg) (mb := mb) (rest := (L, NsO m) :: (378, TabO ps) :: led) GrpOk GrpAt keepF grp_mono [] (o.less 340 (by decide)) (by kernel_rfl) (by rfl) (by rfl) ?_
  refine ld_name S3 (lnames L) (by kernel_rfl) hm ?_
  have hgv3 : ListAt GrpOk R3 gv gs := by
    obtain ⟨a, oa, xs, rfl, ea, la, al⟩ := hgv.up grp_mono (k02.trans k3)
    exact ⟨a, oa, xs, rfl, ea, la, al.with fun gp hgp => ⟨hne gp hgp, hok gp hgp⟩⟩
  refine src_list grpOk_mono (T.up (k02.trans k3)) S3 hgv3 (by omega) (turn_keep (lenv0 L) (o.less 100 (by decide))) fun h4 => ?_
  intro v5 R5 h5 g5 tk5 k5 S5 hv5 hb5
  obtain rfl := hb5.2 rfl
  have hkl : (gs.filterMap keepF).length ≤ gs.length := List.length_filterMap_le _ _
  refine e_listF ?_
  refine spl_cons ?_
  refine e_listF ?_
  refine spl_cons ?_
  refine e_pair S5 fun w1 h6 tk6 R6 k6 S6 hw1 => ?_
  refine spl_cons ?_
  refine e_pair S6 fun w2 h7 tk7 R7 k7 S7 hw2 => ?_
  refine spl_cons ?_
  refine e_pair S7 fun w3 h8 tk8 R8 k8 S8 hw3 => ?_
  refine spl_nil ⟨by show 3 ≤ 1000; omega, h8, _, tk8, R8, _, rfl, S8, fun a9 h9 R9 oo9 k9 S9 e9 l9 => ?_⟩
  have hrow1 : GrpAt R9 (.ref a9) [(0, "SECTION"), (2, "B"), (1, "x")] := ⟨a9, oo9, [w1, w2, w3], rfl, e9, l9, .cons (hw1.up (k7.trans (k8.trans k9))) (.cons (hw2.up (k8.trans k9)) (.cons (hw3.up k9) .nil))⟩
  refine spl_cons ?_
  refine e_grp1 S9 fun w4 h10 tk10 R10 k10 S10 hw4 => ?_
  refine spl_cons ?_
  refine e_grp1 S10 fun w5 h11 tk11 R11 k11 S11 hw5 => ?_
  refine spl_nil ⟨by show 3 ≤ 1000; omega, h11, _, tk11, R11, _, rfl, S11, fun a12 h12 R12 oo12 k12 S12 e12 l12 => ?_⟩
  have k512 : Sub R5 R12 := k6.trans (k7.trans (k8.trans (k9.trans (k10.trans (k11.trans k12)))))
  refine add_lists grp_mono S12 (hv5.up grp_mono k512) (fs := xRows) ⟨a12, oo12, [.ref a9, w4, w5], rfl, e12, l12, .cons (GrpAt.up (k10.trans (k11.trans k12)) hrow1) (.cons (GrpAt.up (k11.trans k12) hw4) (.cons (GrpAt.up k12 hw5) .nil))⟩ (by show (gs.filterMap keepF).length + 3 ≤ 1000; omega) fun a13 h13 R13 k13 S13 hv13 => ?_
  refine spl_nil ⟨by show 3 ≤ 1000; omega, h13, _, _, R13, _, rfl, S13, fun a14 h14 R14 k14 S14 e14 => ?_⟩
  have k3e : Sub R3 R14 := k5.trans (k512.trans (k13.trans k14))
  have kk : Sub R R14 := k02.trans (k3.trans k3e)
  have T14 : Stat w mg mb R14 := T.up kk
  refine for_tup (V := RowsV) rowsV_mono (o.less 340 (by decide)) (InvO w R14 L led) InvO.up T14 S14 e14 (.cons ⟨hgv.up grp_mono kk, hg1⟩ (.cons ⟨hv3.up grp_mono k3e, hg2⟩ (.cons ⟨hv13.up grp_mono k14, hg3⟩ .nil))) ⟨Sub.refl _, m, ps, rfl, ht.up kk⟩ ?_ ?_
  · rintro gs' ds v R' ld tail h' g' tk' ⟨h0, m', ps', rfl, ht'⟩ T' S' ⟨hv, hgd⟩ hb'
    refine st_name S' (lnames L) (by kernel_rfl) fun h15 tk15 S15 => ?_
    refine wpAny_execs_cons ?_
    refine wpAny_For ?_
    refine e_tuple ?_
    refine spl_cons ?_
    refine Constant_bool ?_
    refine spl_cons ?_
    refine Constant_bool ?_
    refine spl_nil ⟨by show 2 ≤ 1000; omega, h15, _, _, R', _, rfl, S15, fun a16 h16 R16 k16 S16 e16 => ?_⟩
    refine for_tup (V := BoolV) (fun _ _ _ _ _ x => x) (o.less 340 (by decide)) (InvI w R16 L (led ++ tail) v gs') InvI.up (T'.up k16) S16 e16 (ds := [false, true]) (.cons rfl (.cons rfl .nil)) ⟨Sub.refl _, _, ps', rfl, ht'.up k16, upd_self, hv.up grp_mono k16⟩ ?_ ?_
    · rintro lets ds2 v2 R17 ld2 tail2 h17 g17 tk17 ⟨h02, m2, ps2, rfl, ht2, hrows, hrv⟩ T17 S17 rfl hb17
      refine st_name S17 (lnames L) (by kernel_rfl) fun h18 tk18 S18 => ?_
      refine law10_body (o.less 520 (by decide)) T17 S18 ht2 hfr ((upd_ne (by decide)).trans hrows) upd_self hrv hgd fun h19 tk19 g19 R19 ps19 k19 ht19 S19 hb19 => ?_
      exact ⟨h19, g19, tk19, R19, _ :: (378, TabO ps19) :: (led ++ tail), rfl, k19, S19, ⟨h02.trans k19, _, ps19, rfl, ht19, (upd_ne (by decide)).trans hrows, hrv.up grp_mono k19⟩, .inr rfl, hb19⟩
    · rintro R17 ld2 h17 g17 tk17 ⟨h02, m2, ps2, rfl, ht2, hrows, hrv⟩ T17 S17 hb17
      refine wpAny_execs_nil ?_
      exact ⟨h17, g17, tk17, R17, (L, NsO m2) :: (378, TabO ps2) :: led, rfl, k16.trans h02, S17, ⟨h0.trans (k16.trans h02), m2, ps2, rfl, ht2⟩, .inr rfl, hb17⟩
  · rintro R' ld h' g' tk' ⟨h0, m', ps', rfl, ht'⟩ T' S' hb'
    exact q h' tk' g' R' m' ps' (kk.trans h0) S' hb'

theorem law_11 {L : Addr} {Q : Flow → Shared → Prop} (q : ∀ tk', Q (.ret (.bool true)) ⟨h, g, dr, tk', os⟩) : wpAny (MD w) A (exec (lst w 11) (lenv w L)) Q E ⟨h, g, dr, tk, os⟩ := by
  refine wpAny_Return_some ?_
  refine Constant_bool ?_
  exact q _
end
end Fw

namespace Fw
open PySem PySem.W PySem.W.X PyProof.Rows PySem.Spec PySem.Calls

/- regrouping -/
def Wf1 (gp : List Pair) : Prop := ∃ p r, gp = p :: r ∧ p.1 = 0 ∧ ∀ q ∈ r, q.1 ≠ 0
def Wf (gs : List (List Pair)) : Prop := ∀ gp ∈ gs, Wf1 gp
theorem Wf1.snoc {gp : List Pair} {t : Pair} (x : Wf1 gp) (h : t.1 ≠ 0) : Wf1 (gp ++ [t]) := by
  obtain ⟨p, r, rfl, hp, hr⟩ := x
  refine ⟨p, r ++ [t], rfl, hp, fun q hq => ?_⟩
  rcases List.mem_append.mp hq with z | z
  · exact hr q z
  · cases List.mem_singleton.mp z; exact h
theorem emit_wf : ∀ (ps : List Pair) (cur : Option (List Pair)), (∀ g, cur = some g → Wf1 g) → Wf (emit 0 cur ps)
  | [], none, _ => fun gp h => nomatch h
  | [], some g, hc => fun gp h => by cases List.mem_singleton.mp h; exact hc _ rfl
  | t :: r, none, hc => by
    unfold emit; split
    · next h => exact emit_wf r _ fun g e => by cases e; exact ⟨t, [], rfl, h, fun q hq => nomatch hq⟩
    · exact emit_wf r _ fun g e => nomatch e
  | t :: r, some g, hc => by
    unfold emit; split
    · next h =>
      refine fun gp hgp => ?_
      rcases List.mem_cons.mp hgp with rfl | hgp
      · exact hc _ rfl
      · exact emit_wf r _ (fun g e => by cases e; exact ⟨t, [], rfl, h, fun q hq => nomatch hq⟩) gp hgp
    · next h => exact emit_wf r _ fun g' e => by cases e; exact (hc g rfl).snoc h
theorem emit_run : ∀ (r : List Pair) (g rest : List Pair), (∀ q ∈ r, q.1 ≠ 0) → emit 0 (some g) (r ++ rest) = emit 0 (some (g ++ r)) rest
  | [], g, rest, _ => by simp
  | t :: r, g, rest, h => by
    show emit 0 (some g) (t :: (r ++ rest)) = _
    rw [emit, if_neg (h t (.head _)), emit_run r (g ++ [t]) rest fun q hq => h q (.tail _ hq)]
    simp
theorem emit_back : ∀ (gs : List (List Pair)) (g : List Pair), Wf gs → emit 0 (some g) gs.flatten = g :: gs
  | [], g, _ => by simp [emit]
  | gp :: gs, g, h => by
    obtain ⟨p, r, rfl, hp, hr⟩ := h gp (.head _)
    have ih := emit_back gs (p :: r) fun gp hgp => h gp (.tail _ hgp)
    rw [List.flatten_cons]
    show emit 0 (some g) (p :: (r ++ gs.flatten)) = _
    rw [emit, if_pos hp, emit_run r [p] _ hr]
    show g :: emit 0 (some (p :: r)) gs.flatten = _
    rw [ih]
theorem regroup : ∀ (gs : List (List Pair)), Wf gs → emit 0 none gs.flatten = gs
  | [], _ => by simp [emit]
  | gp :: gs, h => by
    obtain ⟨p, r, rfl, hp, hr⟩ := h gp (.head _)
    rw [List.flatten_cons]
    show emit 0 none (p :: (r ++ gs.flatten)) = _
    rw [emit, if_pos hp, emit_run r [p] _ hr]
    exact emit_back gs (p :: r) fun gp hgp => h gp (.tail _ hgp)
theorem emit_flat {sc : Int} : ∀ (ps : List Pair) (cur : Option (List Pair)), (emit sc cur ps).flatten.length ≤ ps.length + (match cur with | none => 0 | some g => g.length)
  | [], none => by simp [emit]
  | [], some g => by simp [emit]
  | t :: r, none => by
    unfold emit; split
    · have := emit_flat (sc := sc) r (some [t]); simp at this ⊢; omega
    · have := emit_flat (sc := sc) r none; simp at this ⊢; omega
  | t :: r, some g => by
    unfold emit; split
    · have := emit_flat (sc := sc) r (some [t]); simp at this ⊢; omega
    · have := emit_flat (sc := sc) r (some (g ++ [t])); simp at this ⊢; omega

theorem Wf.good {gs : List (List Pair)} (x : Wf gs) (h1 : gs.length ≤ 100) (h2 : gs.flatten.length ≤ 100) (hok : OkG gs) : Good gs := by
  refine ⟨regroup gs x, h1, h2, fun gp hgp => ⟨?_, ?_⟩, hok⟩
  · obtain ⟨p, r, rfl, _⟩ := x gp hgp
    exact fun z => nomatch z
  · have : gp.length ≤ gs.flatten.length := by
      obtain ⟨a, b, rfl⟩ := List.append_of_mem hgp
      simp; omega
    omega
theorem keep_some {gp u : List Pair} (h : keepF gp = some u) : u = gp := by
  unfold keepF at h
  split at h
  · cases h
  · split at h
    · cases h
    · cases h; rfl
theorem keep_mem {gs : List (List Pair)} {gp : List Pair} (h : gp ∈ gs.filterMap keepF) : gp ∈ gs := by
  obtain ⟨u, hu, e⟩ := List.mem_filterMap.mp h
  rw [keep_some e]; exact hu
theorem keep_flat : ∀ (gs : List (List Pair)), (gs.filterMap keepF).flatten.length ≤ gs.flatten.length
  | [] => by simp
  | gp :: gs => by
    have := keep_flat gs
    rw [List.filterMap_cons]
    split
    · simp at this ⊢; omega
    · next u e => rw [keep_some e]; simp at this ⊢; omega
theorem wf_eof : Wf eofRow := fun gp h => by
  cases List.mem_singleton.mp h
  exact ⟨_, [], rfl, rfl, fun q hq => nomatch hq⟩
theorem wf_x : Wf xRows := fun gp h => by
  rcases List.mem_cons.mp h with rfl | h
  · refine ⟨_, _, rfl, rfl, fun q hq => ?_⟩
    rcases List.mem_cons.mp hq with rfl | hq
    · decide
    · cases List.mem_singleton.mp hq; decide
  · rcases List.mem_cons.mp h with rfl | h
    · exact ⟨_, [], rfl, rfl, fun q hq => nomatch hq⟩
    · cases List.mem_singleton.mp h
      exact ⟨_, [], rfl, rfl, fun q hq => nomatch hq⟩
theorem Wf.append {a b : List (List Pair)} (x : Wf a) (y : Wf b) : Wf (a ++ b) := fun gp h => by
  rcases List.mem_append.mp h with z | z
  · exact x gp z
  · exact y gp z
theorem OkG.append {a b : List (List Pair)} (x : OkG a) (y : OkG b) : OkG (a ++ b) := fun gp h => by
  rcases List.mem_append.mp h with z | z
  · exact x gp z
  · exact y gp z
theorem ok_of {gs : List (List Pair)} (h : gs.all (fun gp => gp.all fun p => PyData.strOk p.2) = true) : OkG gs := fun gp hgp p hp =>
  List.all_eq_true.mp (List.all_eq_true.mp h gp hgp) p hp
theorem goods {ps : List Pair} (hl : ps.length ≤ 67) (hok : OkP ps) :
    Good (emit 0 none ps) ∧ Good (emit 0 none ps ++ eofRow) ∧ Good ((emit 0 none ps).filterMap keepF ++ xRows) := by
  have hw : Wf (emit 0 none ps) := emit_wf ps none fun g e => nomatch e
  have ho : OkG (emit 0 none ps) := emit_ok ps none hok fun g e => nomatch e
  have h1 := emit_len (sc := 0) ps none
  have h2 := emit_flat (sc := 0) ps none
  have h3 := keep_flat (emit 0 none ps)
  have h4 := List.length_filterMap_le keepF (emit 0 none ps)
  simp only at h2
  refine ⟨hw.good (by omega) (by omega) ho, (hw.append wf_eof).good ?_ ?_ (ho.append (ok_of (by decide +kernel))), Wf.good (Wf.append (fun gp h => hw gp (keep_mem h)) wf_x) ?_ ?_ (OkG.append (fun gp h => ho gp (keep_mem h)) (ok_of (by decide +kernel)))⟩
  · rw [List.length_append]; show _ + 1 ≤ 100; omega
  · rw [List.flatten_append, List.length_append]; show _ + 1 ≤ 100; omega
  · rw [List.length_append]; show _ + 3 ≤ 100; omega
  · rw [List.flatten_append, List.length_append]; show _ + 5 ≤ 100; omega

/- places -/
def pF (n : Nat) : List Pair → List Nat
  | [] => []
  | t :: r => if t.1 = 2 then n :: pF (n + 1) r else pF (n + 1) r
theorem pF_len : ∀ (ps : List Pair) (n : Nat), (pF n ps).length ≤ ps.length
  | [], n => by simp [pF]
  | t :: r, n => by
    have := pF_len r (n + 1)
    unfold pF; split <;> simp <;> omega
theorem pF_mem : ∀ (ps : List Pair) (n k : Nat), k ∈ pF n ps → n ≤ k ∧ k ≤ n + ps.length
  | [], n, k, h => by simp [pF] at h
  | t :: r, n, k, h => by
    unfold pF at h
    have ih := pF_mem r (n + 1) k
    rw [List.length_cons]
    split at h
    · rcases List.mem_cons.mp h with rfl | h
      · omega
      · have := ih h; omega
    · have := ih h; omega
theorem pF_sorted : ∀ (ps : List Pair) (n : Nat), (pF n ps).Pairwise (· ≤ ·)
  | [], n => by simp [pF]
  | t :: r, n => by
    unfold pF; split
    · refine List.pairwise_cons.mpr ⟨fun k hk => ?_, pF_sorted r (n + 1)⟩
      have := pF_mem r (n + 1) k hk; omega
    · exact pF_sorted r (n + 1)
theorem places_pF (all : List Pair) : ∀ (rest : List Pair) (n : Nat), all.drop n = rest → (List.range' n rest.length).filterMap (plcF all) = pF n rest
  | [], n, _ => by simp [pF]
  | t :: r, n, h => by
    have ht : all[n]? = some t := by
      have := congrArg List.head? h
      rwa [List.head?_drop] at this
    have hr : all.drop (n + 1) = r := by rw [← List.drop_drop, h]; rfl
    have ih := places_pF all r (n + 1) hr
    rw [List.length_cons, List.range'_succ, List.filterMap_cons]
    unfold pF
    have hF : plcF all n = if t.1 = 2 then some n else none := by unfold plcF; rw [ht]; simp
    rw [hF]
    by_cases h2 : t.1 = 2
    · rw [if_pos h2, if_pos h2, ih]
    · rw [if_neg h2, if_neg h2, ih]
theorem placesOf_eq (ps : List Pair) : placesOf ps = pF 0 ps ++ [ps.length] := by
  unfold placesOf
  rw [List.range_eq_range', places_pF ps ps 0 rfl]
theorem places_len {ps : List Pair} : (placesOf ps).length ≤ ps.length + 1 ∧ 1 ≤ (placesOf ps).length := by
  rw [placesOf_eq, List.length_append]
  have := pF_len ps 0
  show _ + 1 ≤ _ ∧ 1 ≤ _ + 1
  omega
theorem places_ord (ps : List Pair) : ∀ k, k + 1 < (placesOf ps).length → (placesOf ps).getD k 0 ≤ (placesOf ps).getD (k + 1) 0 ∧ (placesOf ps).getD (k + 1) 0 ≤ ps.length := by
  intro k hk
  have hs : (placesOf ps).Pairwise (· ≤ ·) := by
    rw [placesOf_eq]
    refine List.pairwise_append.mpr ⟨pF_sorted ps 0, by simp, fun a ha b hb => ?_⟩
    have := pF_mem ps 0 a ha
    cases List.mem_singleton.mp hb; omega
  have hk0 : k < (placesOf ps).length := by omega
  rw [getD_lt hk, getD_lt hk0]
  refine ⟨List.pairwise_iff_getElem.mp hs k (k + 1) hk0 hk (by omega), ?_⟩
  have hm : (placesOf ps)[k + 1] ∈ placesOf ps := List.getElem_mem hk
  have hall : ∀ x ∈ placesOf ps, x ≤ ps.length := by
    rw [placesOf_eq]
    intro x hx
    rcases List.mem_append.mp hx with z | z
    · have := pF_mem ps 0 x z; omega
    · cases List.mem_singleton.mp z; omega
  exact hall _ hm
def Z (ps : List Pair) : List Nat → List (List Str)
  | a :: b :: r => ((ps.drop a).take (b - a)).map (·.2) :: Z ps (b :: r)
  | _ => []
theorem sl_cons (ps : List Pair) (a : Nat) (pl : List Nat) (k : Nat) : sl ps (a :: pl) (k + 1) = sl ps pl k := by
  unfold sl; rfl
theorem range_Z (ps : List Pair) : ∀ (pl : List Nat), (List.range (pl.length - 1)).map (sl ps pl) = Z ps pl
  | [] => by simp [Z]
  | [a] => by simp [Z]
  | a :: b :: r => by
    have ih := range_Z ps (b :: r)
    show (List.range (r.length + 1)).map (sl ps (a :: b :: r)) = _
    rw [List.range_succ_eq_map, List.map_cons, List.map_map]
    unfold Z
    congr 1
theorem emit_Z (all : List Pair) : ∀ (rest : List Pair) (n : Nat), all.drop n = rest → n + rest.length = all.length →
    (emit 2 none rest).map (fun gp => gp.map (·.2)) = Z all (pF n rest ++ [all.length]) ∧
    ∀ a, a ≤ n → (emit 2 (some ((all.drop a).take (n - a))) rest).map (fun gp => gp.map (·.2)) = Z all (a :: (pF n rest ++ [all.length]))
  | [], n, h, hn => by
    simp only [List.length_nil] at hn
    refine ⟨by simp [emit, pF, Z], fun a ha => ?_⟩
    simp [emit, pF, Z, ← hn]
  | t :: r, n, h, hn => by
    have hr : all.drop (n + 1) = r := by rw [← List.drop_drop, h]; rfl
    rw [List.length_cons] at hn
    obtain ⟨i1, i2⟩ := emit_Z all r (n + 1) hr (by omega)
    have h1 : (all.drop n).take (n + 1 - n) = [t] := by rw [h]; simp
    refine ⟨?_, fun a ha => ?_⟩
    · unfold emit pF
      by_cases h2 : t.1 = 2
      · rw [if_pos h2, if_pos h2]
        have := i2 n (by omega)
        rw [h1] at this
        exact this
      · rw [if_neg h2, if_neg h2]; exact i1
    · unfold emit pF
      by_cases h2 : t.1 = 2
      · rw [if_pos h2, if_pos h2, List.map_cons]
        have := i2 n (by omega)
        rw [h1] at this
        rw [this]
        show _ = Z all (a :: n :: (pF (n + 1) r ++ [all.length]))
        rw [Z]
      · rw [if_neg h2, if_neg h2]
        have := i2 a (by omega)
        have e : (all.drop a).take (n - a) ++ [t] = (all.drop a).take (n + 1 - a) := by
          have hna : n + 1 - a = (n - a) + 1 := by omega
          have hget : (all.drop a)[n - a]? = some t := by
            rw [List.getElem?_drop]
            have := congrArg List.head? h
            rw [List.head?_drop] at this
            rwa [show a + (n - a) = n by omega]
          rw [hna, List.take_add_one, hget]
          rfl
        rw [e]; exact this
theorem by_places (ps : List Pair) : (emit 2 none ps).map (fun gp => gp.map (·.2)) = (List.range ((placesOf ps).length - 1)).map (sl ps (placesOf ps)) := by
  rw [range_Z, placesOf_eq]
  exact (emit_Z ps ps 0 rfl (by omega)).1
end Fw

namespace Fw
open PySem PySem.W PySem.W.X PyProof.Rows PySem.Spec PySem.Calls

section
variable {w : World} {mg mb : Str → Option Value} {A : Around} {E : Value → Shared → Prop} {R h : Heap} {g : Array GenState} {dr : Drawn} {tk : Nat} {os : OsState} {env : Env} {led rest : Led} {δ ε : Type}

theorem lbody_eq : (fnAt w 405).body = .stmts [lst w 0, lst w 1, lst w 2, lst w 3, lst w 4, lst w 5, lst w 6, lst w 7, lst w 8, lst w 9, lst w 10, lst w 11] := by with_unfolding_all rfl
theorem ScrAt.up {R R' : Heap} (k : Sub R R') {l : Addr} {ns : List Int} (x : ScrAt R l ns) : ScrAt R' l ns := let ⟨o, xs, n, e, c, d, al⟩ := x; ⟨o, xs, n, k _ _ e, c, d, al⟩

set_option maxHeartbeats 4000000 in
theorem law_all {l : Addr} {ns : List Int} {Q : Value → Shared → Prop} (o : Aok 560 A) (T : Stat w mg mb R) (S : St R [(378, TabO #[])] h) (hfr : A.frames = some []) (hl : ScrAt R l ns) (hns : ns.length ≤ 63)
    (q : ∀ h' tk' g' R' ps', Sub R R' → St R' [(378, TabO ps')] h' → (AllBare g → AllBare g') → Q (.bool true) ⟨h', g', dr, tk', os⟩) :
    wpAny (MD w) A (PySem.call (.ref 405) [.ref l]) Q E ⟨h, g, dr, tk, os⟩ := by
  have Xh : (KF w).In h := KIn.up T.K S.sub
  obtain ⟨vals, hvals⟩ : ∃ vals : List Value, vals = [.ref l] := ⟨_, rfl⟩
  rw [← hvals]
  have hb : BindsTo ⟨h, g, dr, tk, os⟩ (fnAt w 405) ⟨vals, []⟩ [("script", .ref l)] := by
    rw [hvals]; exact @bindsK w h g dr tk os (fnAt w 405) _ _ Xh (fun S => by kernel_rfl)
  refine callKB (n := 540) (binds := [("script", .ref l)]) (o.less 560 (by decide)) (T.up S.sub) (by kernel_rfl) (by kernel_rfl) lbody_eq hb (by kernel_rfl) (by kernel_rfl) (by kernel_rfl) (by kernel_rfl) (by kernel_rfl) ?_
  intro h₁ tk₁ L hsz k₁ hn hnone hcells od
  obtain ⟨⟨oce, ece, qce⟩, hcn⟩ := hcells "pairs" (L + 1) (by kernel_rfl)
  obtain ⟨⟨oce2, ece2, qce2⟩, hcn2⟩ := hcells "places" (L + 2) (by kernel_rfl)
  have hce : ∃ o, h₁.get? (L + 1) = some o ∧ CeO none o := ⟨oce, ece, qce⟩
  have hce2 : ∃ o, h₁.get? (L + 2) = some o ∧ CeO none o := ⟨oce2, ece2, qce2⟩
  obtain ⟨oL, eL, qL⟩ := NsO.of hn
  have S1 : St R ((L + 1, CeO none) :: (L, NsO _) :: (L + 2, CeO none) :: [(378, TabO #[])]) h₁ := St.addMany k₁ (new := [(L + 1, CeO none), (L, NsO _), (L + 2, CeO none)]) (fun p hp => by
    rcases List.mem_cons.mp hp with rfl | hp
    · exact ⟨hce, hcn⟩
    · rcases List.mem_cons.mp hp with rfl | hp
      · exact ⟨⟨oL, eL, qL⟩, hnone⟩
      · cases List.mem_singleton.mp hp
        exact ⟨hce2, hcn2⟩) (by simp) S
  generalize hm0 : (bindL (envAt w 405 L).kindOf [(("script" : Str), Value.ref l)] fun _ => none) = m0 at S1
  have m1 : m0 "script" = some (.ref l) := by rw [← hm0]; kernel_rfl
  have fr' : (A.deeper (lenv w L)).frames = some [lenv w L] := Around.frames_deeper hfr
  have o4 : Aok 400 (A.deeper (lenv w L)) := od.less 400 (by decide)
  refine wpAny_execs_cons ?_
  refine law_0 S1 fun h2 pl S2 => ?_
  refine wpAny_execs_cons ?_
  refine law_1 o4 T S2.f2 m1 hl hns fun h3 tk3 g3 R3 m3 xs ps0 k3 S3 hps0 hlen0 hok0 hm3 hb3 => ?_
  refine wpAny_execs_cons ?_
  refine law_2 o4 (T.up k3) S3 hm3 (hl.up k3) hns hps0 hlen0 hok0 fun h4 tk4 R4 pv ps k4 S4 hc4 hps4 hlen4 hok4 => ?_
  refine wpAny_execs_cons ?_
  refine law_3 S4 fun h5 tk5 gl S5 => ?_
  refine wpAny_execs_cons ?_
  refine law_4 o4 (T.up (k3.trans k4)) S5 upd_self hc4 hps4 hlen4 fun h6 tk6 g6 R6 m6 gv k6 S6 hm6 hgv6 hb6 => ?_
  have T6 : Stat w mg mb R6 := T.up (k3.trans (k4.trans k6))
  refine wpAny_execs_cons ?_
  refine law_5 o4 T6 S6 (hc4.keeps k6) (hps4.up pair_mono k6) hlen4 fun rv h7 tk7 g7 R7 k7 S7 hrv7 hb7 => ?_
  have hel := emit_len (sc := 0) ps none
  have hokG := emit_ok (sc := 0) ps none hok4 fun _ e => nomatch e
  have hgm7 : upd m6 "rows" rv "groups" = some gv := (upd_ne (by decide)).trans hm6
  refine wpAny_execs_cons ?_
  refine law_6 o4 (T6.up k7) S7 upd_self hgm7 hrv7 (hgv6.up grp_mono k7) (by omega) hokG fun h8 tk8 R8 k8 S8 => ?_
  have T8 : Stat w mg mb R8 := T6.up (k7.trans k8)
  have k48 : Sub R4 R8 := k6.trans (k7.trans k8)
  refine wpAny_execs_cons ?_
  refine law_7 o4 T8 S8 (hc4.keeps k48) (hps4.up pair_mono k48) hlen4 fun bv h9 tk9 g9 R9 k9 S9 hbv9 hb9 => ?_
  have hgm9 : upd (upd m6 "rows" rv) "by" bv "groups" = some gv := (upd_ne (by decide)).trans hgm7
  have k49 : Sub R4 R9 := k48.trans k9
  refine wpAny_execs_cons ?_
  refine law_8 o4 (T8.up k9) S9 (hc4.keeps k49) (hps4.up pair_mono k49) hlen4 fun qv h10 tk10 R10 k10 S10 hc10 hql10 => ?_
  have k410 : Sub R4 R10 := k49.trans k10
  obtain ⟨hpl1, hpl2⟩ := places_len (ps := ps)
  refine wpAny_execs_cons ?_
  refine law_9 o4 (T8.up (k9.trans k10)) S10 (hc4.keeps k410) (hps4.up pair_mono k410) hlen4 hc10 hql10 (by omega) hpl2 (places_ord ps) upd_self (hbv9.up (list_mono str_mono) k10) (by_places ps) (fun ls hls x hx => by
    obtain ⟨gp, hgp, rfl⟩ := List.mem_map.mp hls
    obtain ⟨p, hp, rfl⟩ := List.mem_map.mp hx
    exact emit_ok (sc := 2) ps none hok4 (fun _ e => nomatch e) gp hgp p hp) fun h11 tk11 R11 k11 S11 => ?_
  have k611 : Sub R6 R11 := k7.trans (k8.trans (k9.trans (k10.trans k11)))
  have T11 : Stat w mg mb R11 := T6.up k611
  obtain ⟨gd1, gd2, gd3⟩ := goods hlen4 hok4
  refine wpAny_execs_cons ?_
  refine law_10 (od.less 520 (by decide)) T11 S11 (.inl rfl) fr' hgm9 (hgv6.up grp_mono k611) (fun gp hgp => (gd1.ne gp hgp).1) hokG (by omega) gd1 gd2 gd3 fun h12 tk12 g12 R12 m12 ps12 k12 S12 hb12 => ?_
  refine wpAny_execs_cons ?_
  refine law_11 fun tk13 => ?_
  exact q h12 tk13 g12 R12 ps12 (k3.trans (k4.trans (k6.trans (k611.trans k12)))) S12.tail fun b => hb12 (hb9 (hb7 (hb6 (hb3 b))))
end
end Fw

namespace Fw
open PySem PySem.W PySem.W.X PyProof.Rows PySem.Spec PySem.Calls

theorem K_378 {w : World} : ((KF w).all fun p => p.1 != 378) = true := by kernel_rfl
theorem hid (h : Heap) {b : Addr} {o : Obj} (e : h.get? b = some o) (hb : b ≠ 378) : (hideAll h [378]).get? b = some o :=
  hideAll_get _ e fun z => hb (List.mem_singleton.mp z)
theorem K_hid {w : World} {h : Heap} (X : (KF w).In h) : (KF w).In (hideAll h [378]) := fun a o e => by
  have := List.all_eq_true.mp (K_378 (w := w)) _ (mem_of_lk e)
  exact hid h (X a o e) (by simpa using this)
theorem ns_hid {h : Heap} {a : Addr} {m} (x : h.Ns a m) (hb : a ≠ 378) : (hideAll h [378]).Ns a m := let ⟨o, es, ep, e, r⟩ := x; ⟨o, es, ep, hid h e hb, r⟩
theorem st0 {h : Heap} (e : h.get? 378 = some (tabObj #[])) : St (hideAll h [378]) [(378, TabO #[])] h :=
  ⟨fun b o q => of_hideAll _ q, fun p hp => by cases List.mem_singleton.mp hp; exact ⟨_, e, rfl⟩, fun p hp => by cases List.mem_singleton.mp hp; exact hideAll_none _ (.head _), by simp⟩
theorem stat0 {w : World} {p : Program} {loose : List Str} {mean : ExcName → Option Value} {mg mb : Str → Option Value} {h : Heap} (X : (KF w).In h) (T : Top p loose mean mg mb h) (e : h.get? 378 = some (tabObj #[])) : Stat w mg mb (hideAll h [378]) := by
  have hg := ns_hid T.g (show mainGlobals ≠ 378 by decide)
  have hb := ns_hid T.b (show builtinsNs ≠ 378 by decide)
  have hl : (hideAll h [378]).NoLimit := let ⟨mc, x, y⟩ := T.nolimit; ⟨mc, ns_hid x (by decide), y⟩
  have TR : TopRead p loose mg mb (hideAll h [378]) := ⟨hg, hb, hl, T.builtins, T.free⟩
  obtain ⟨bm, ob, b1, b2, b3, b4⟩ := T.bmain
  refine ⟨K_hid X, hl, hg, hb, T.builtins, own_of_in (K_hid X) TR (by kernel_rfl) (by kernel_rfl), bm, ob, b1, b2, hid h b3 ?_, b4⟩
  intro z
  rw [z] at b3
  rw [b3] at e
  cases e
  cases b4.1
theorem oldK {w : World} {h h' R' : Heap} {ps : Array Value} {led : Led} (X : (KF w).In h) (e : h.get? 378 = some (tabObj #[])) (k : Sub (hideAll h [378]) R') (S : St R' ((378, TabO ps) :: led) h') : OldK h h' := by
  obtain ⟨oo, e1, rfl⟩ := S.head
  refine ⟨fun b o q => ?_, fun b o q => ?_⟩
  · by_cases hb : b = 378
    · subst hb
      rw [e] at q
      cases q
      obtain ⟨oc, vs, _, _, _, _, _, _, _, a1, a2, a3, a4, _⟩ := codeHd_of_K (c := 382) (P := 378) X (by kernel_rfl)
      exact .inr (.inl ⟨⟨382, oc, vs, a1, a2, a3, a4⟩, rfl, #[], ps, rfl, by simpa using e1⟩)
    · exact .inl (S.sub _ _ (k _ _ (hid h q hb)))
  · by_cases hb : b = 378
    · subst hb; exact ⟨_, e1⟩
    · exact ⟨o, S.sub _ _ (k _ _ (hid h q hb))⟩
theorem ints_all {h : Heap} {vs : List Value} {ns : List Int} (x : IntsAre vs ns) : All2 (IntV h) vs ns := by
  induction x with
  | nil => exact .nil
  | cons => exact .cons ⟨_, rfl⟩ (by assumption)
end Fw
open PySem PySem.W PySem.W.X PyProof.Rows PySem.Spec PySem.Calls
set_option maxHeartbeats 4000000 in
theorem PySem.Challenge.cw_fw0014_01_holds : PySem.Challenge.rw_fw0014_01.Holds := by
  refine Fw.hd ?_
  intro w s₀ s₁ mg mb G Y fa o pm cd doc dV kV ho hd hcd hD hmg hg args vals as hpre hlay hrd hwl hlo
  have KX := km_in_of Y
  have KT := km_tabs_of Y
  have X := (Ground.X G).1
  have V := (Ground.X G).2
  refine Ground.open G ?_
  intro T B D TE TW
  wrow_args hpre hlay hrd hwl hlo
  rename_i ns _ _ _ _ _ _ _ l vs _ hL _ _ _ hI _ hc _
  have h405 : mg "law" = some (.ref 405) := mg_of KX T.g (by kernel_rfl)
  have hfa : fa = 405 := by
    have e := hmg.symm.trans h405
    exact Value.ref.inj (Option.some.inj e)
  subst hfa
  have e378 := KT 378 (.head _)
  have hns : ns.length ≤ 63 := by omega
  obtain ⟨oL, eoL, cL, nL, dL⟩ := hL
  have hne : l ≠ 378 := fun z => by
    rw [z, e378] at eoL
    cases eoL
    cases cL
  have hscr : Fw.ScrAt (hideAll s₁.heap [378]) l ns := ⟨oL, vs, nL, Fw.hid _ eoL hne, cL, dL, Fw.ints_all hI⟩
  refine Fw.law_all (A := callerA) (h := s₁.heap) (g := s₁.gens) (dr := s₁.drawn) (tk := s₁.toks) (os := s₁.os) ⟨rfl, by decide, by decide⟩ (Fw.stat0 KX T e378) (Fw.st0 e378) rfl hscr hns fun h' tk' g' R' ps' k S' hb => ?_
  refine ⟨.inl ⟨_, _, [], rfl, fun _ => rfl, ReadsW.bool true, ?_, fun _ => ⟨List.nodup_nil, fun _ hm => nomatch hm⟩⟩, Fw.oldK KX e378 k S', rfl, hb (hg ▸ AllBare.empty)⟩
  wrow_post

