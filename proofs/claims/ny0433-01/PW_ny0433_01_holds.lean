import PyProof.Rows.All
import Wide.All
import OpenK.AllK
import Wide.FinOn
import PySem.Challenge.RW_ny0433_01
open PySem PySem.W PyProof.Rows
set_option Elab.async false
set_option maxRecDepth 100000
set_option maxHeartbeats 4000000
set_option linter.unusedVariables false
set_option linter.unusedSimpArgs false
set_option compiler.extract_closed false
namespace Mine
section
set_option maxHeartbeats 0
theorem said : PySem.Challenge.rw_ny0433_01.wellSaid = true := by
  unfold OpenLaw.wellSaid OpenRow.wellSaid OpenRow.partSaid looksOpen
  repeat' with_reducible refine look_both ?_ ?_
  all_goals decide +kernel
end
section
open PySem PySem.W PyProof.Rows PySem.Calls
section
noncomputable abbrev MD (w : World) : Model := model PySem.Challenge.pw_ny0433_01 w
/- n existences at once, m conjuncts at once -/
inductive E2 {α1 α2 : Type} (p : α1 → α2 → Prop) : Prop | mk (a1 : α1) (a2 : α2) (h : p a1 a2) : E2 p
inductive E3 {α1 α2 α3 : Type} (p : α1 → α2 → α3 → Prop) : Prop | mk (a1 : α1) (a2 : α2) (a3 : α3) (h : p a1 a2 a3) : E3 p
inductive E4 {α1 α2 α3 α4 : Type} (p : α1 → α2 → α3 → α4 → Prop) : Prop | mk (a1 : α1) (a2 : α2) (a3 : α3) (a4 : α4) (h : p a1 a2 a3 a4) : E4 p
inductive E5 {α1 α2 α3 α4 α5 : Type} (p : α1 → α2 → α3 → α4 → α5 → Prop) : Prop | mk (a1 : α1) (a2 : α2) (a3 : α3) (a4 : α4) (a5 : α5) (h : p a1 a2 a3 a4 a5) : E5 p
inductive E6 {α1 α2 α3 α4 α5 α6 : Type} (p : α1 → α2 → α3 → α4 → α5 → α6 → Prop) : Prop | mk (a1 : α1) (a2 : α2) (a3 : α3) (a4 : α4) (a5 : α5) (a6 : α6) (h : p a1 a2 a3 a4 a5 a6) : E6 p
inductive E7 {α1 α2 α3 α4 α5 α6 α7 : Type} (p : α1 → α2 → α3 → α4 → α5 → α6 → α7 → Prop) : Prop | mk (a1 : α1) (a2 : α2) (a3 : α3) (a4 : α4) (a5 : α5) (a6 : α6) (a7 : α7) (h : p a1 a2 a3 a4 a5 a6 a7) : E7 p
inductive E8 {α1 α2 α3 α4 α5 α6 α7 α8 : Type} (p : α1 → α2 → α3 → α4 → α5 → α6 → α7 → α8 → Prop) : Prop | mk (a1 : α1) (a2 : α2) (a3 : α3) (a4 : α4) (a5 : α5) (a6 : α6) (a7 : α7) (a8 : α8) (h : p a1 a2 a3 a4 a5 a6 a7 a8) : E8 p
inductive E9 {α1 α2 α3 α4 α5 α6 α7 α8 α9 : Type} (p : α1 → α2 → α3 → α4 → α5 → α6 → α7 → α8 → α9 → Prop) : Prop | mk (a1 : α1) (a2 : α2) (a3 : α3) (a4 : α4) (a5 : α5) (a6 : α6) (a7 : α7) (a8 : α8) (a9 : α9) (h : p a1 a2 a3 a4 a5 a6 a7 a8 a9) : E9 p
inductive E11 {α1 α2 α3 α4 α5 α6 α7 α8 α9 α10 α11 : Type} (p : α1 → α2 → α3 → α4 → α5 → α6 → α7 → α8 → α9 → α10 → α11 → Prop) : Prop | mk (a1 : α1) (a2 : α2) (a3 : α3) (a4 : α4) (a5 : α5) (a6 : α6) (a7 : α7) (a8 : α8) (a9 : α9) (a10 : α10) (a11 : α11) (h : p a1 a2 a3 a4 a5 a6 a7 a8 a9 a10 a11) : E11 p
inductive E13 {α1 α2 α3 α4 α5 α6 α7 α8 α9 α10 α11 α12 α13 : Type} (p : α1 → α2 → α3 → α4 → α5 → α6 → α7 → α8 → α9 → α10 → α11 → α12 → α13 → Prop) : Prop | mk (a1 : α1) (a2 : α2) (a3 : α3) (a4 : α4) (a5 : α5) (a6 : α6) (a7 : α7) (a8 : α8) (a9 : α9) (a10 : α10) (a11 : α11) (a12 : α12) (a13 : α13) (h : p a1 a2 a3 a4 a5 a6 a7 a8 a9 a10 a11 a12 a13) : E13 p
inductive A3 (p1 p2 p3 : Prop) : Prop | mk (h1 : p1) (h2 : p2) (h3 : p3) : A3 p1 p2 p3
inductive A4 (p1 p2 p3 p4 : Prop) : Prop | mk (h1 : p1) (h2 : p2) (h3 : p3) (h4 : p4) : A4 p1 p2 p3 p4
inductive A5 (p1 p2 p3 p4 p5 : Prop) : Prop | mk (h1 : p1) (h2 : p2) (h3 : p3) (h4 : p4) (h5 : p5) : A5 p1 p2 p3 p4 p5
inductive A6 (p1 p2 p3 p4 p5 p6 : Prop) : Prop | mk (h1 : p1) (h2 : p2) (h3 : p3) (h4 : p4) (h5 : p5) (h6 : p6) : A6 p1 p2 p3 p4 p5 p6
inductive A7 (p1 p2 p3 p4 p5 p6 p7 : Prop) : Prop | mk (h1 : p1) (h2 : p2) (h3 : p3) (h4 : p4) (h5 : p5) (h6 : p6) (h7 : p7) : A7 p1 p2 p3 p4 p5 p6 p7
inductive A8 (p1 p2 p3 p4 p5 p6 p7 p8 : Prop) : Prop | mk (h1 : p1) (h2 : p2) (h3 : p3) (h4 : p4) (h5 : p5) (h6 : p6) (h7 : p7) (h8 : p8) : A8 p1 p2 p3 p4 p5 p6 p7 p8
inductive A11 (p1 p2 p3 p4 p5 p6 p7 p8 p9 p10 p11 : Prop) : Prop | mk (h1 : p1) (h2 : p2) (h3 : p3) (h4 : p4) (h5 : p5) (h6 : p6) (h7 : p7) (h8 : p8) (h9 : p9) (h10 : p10) (h11 : p11) : A11 p1 p2 p3 p4 p5 p6 p7 p8 p9 p10 p11
/-- a part of the heap that is owned: its addresses, and what holds of it -/
structure HP where
  foot : List Addr
  ok : Heap → Prop
  loc : ∀ {h h' : Heap}, (∀ a ∈ foot, h'.get? a = h.get? a) → ok h → ok h'
  lt : ∀ {h : Heap}, ok h → ∀ a ∈ foot, ∃ o, h.get? a = some o
/-- one object -/
noncomputable def HP.one (a : Addr) (P : Obj → Prop) : HP where
  foot := [a]
  ok h := ∃ o, h.get? a = some o ∧ P o
  loc e := fun ⟨o, ho, p⟩ => ⟨o, (e a (.head _)).trans ho, p⟩
  lt := fun ⟨o, ho, _⟩ b hb => by cases List.mem_singleton.mp hb; exact ⟨o, ho⟩
noncomputable abbrev Vals := List (Option Value)
/-- what stands at the top -/
structure TP (K : Frag) (h : Heap) : Prop where
  kin : K.In h
  lim : h.NoLimit
  bi : ∃ mb, h.Ns builtinsNs mb ∧ ∀ x : Str, x ≠ "__name__" → mb x = bootBuiltins x
  gl : ∃ mg, h.Ns mainGlobals mg
noncomputable def Free (K : Frag) (a : Addr) : Prop := K.lookup a = none ∧ a ≠ builtinsNs ∧ a ≠ cStatics ∧ a ≠ mainGlobals
theorem TP.lift {K : Frag} {h h' : Heap} {F : List Addr} (T : TP K h) (hF : ∀ a ∈ F, Free K a) (e : ∀ a o, h.get? a = some o → a ∉ F → h'.get? a = some o) : TP K h' := by
  have low : ∀ a m, h.Ns a m → (∀ b ∈ F, b ≠ a) → h'.Ns a m := fun a m ⟨o, es, ep, ho, r⟩ hn => ⟨o, es, ep, e _ _ ho (fun q => hn a q rfl), r⟩
  refine ⟨fun a o q => e _ _ (T.kin a o q) fun z => ?_, ?_, ?_, ?_⟩
  · rw [(hF a z).1] at q; cases q
  · obtain ⟨mc, n, q⟩ := T.lim; exact ⟨mc, low _ _ n fun b hb => (hF b hb).2.2.1, q⟩
  · obtain ⟨mb, n, q⟩ := T.bi; exact ⟨mb, low _ _ n fun b hb => (hF b hb).2.1, q⟩
  · obtain ⟨mg, n⟩ := T.gl; exact ⟨mg, low _ _ n fun b hb => (hF b hb).2.2.2⟩
theorem TP.keeps {K : Frag} {h h' : Heap} (T : TP K h) (e : ∀ a o, h.get? a = some o → h'.get? a = some o) : TP K h' := T.lift (F := []) (fun _ q => nomatch q) fun a o q _ => e a o q
/-- a new address is free -/
theorem TP.free {K : Frag} {h : Heap} (T : TP K h) {a : Addr} (ha : h.objs.size ≤ a) : Free K a := by
  refine ⟨?_, ?_, ?_, ?_⟩
  · cases q : K.lookup a with
    | none => rfl
    | some o => exact absurd (Heap.lt_size (T.kin a o q)) (Nat.not_lt.mpr ha)
  · obtain ⟨mb, n, _⟩ := T.bi; exact Ne.symm (Nat.ne_of_lt (Nat.lt_of_lt_of_le n.lt ha))
  · obtain ⟨mb, n, _⟩ := T.lim; exact Ne.symm (Nat.ne_of_lt (Nat.lt_of_lt_of_le n.lt ha))
  · obtain ⟨mb, n⟩ := T.gl; exact Ne.symm (Nat.ne_of_lt (Nat.lt_of_lt_of_le n.lt ha))
/-- the frames that are on the way -/
noncomputable def frOf (A : Around) : List Addr := (A.frames.getD []).filterMap (·.frame)
/-- what is known of the generators and the draws -/
noncomputable abbrev GP := Array GenState → Drawn → Prop
/-- a frame: the written top, the old addresses that may change, the state at its start, its environment, its local names -/
structure Fm where
  K : Frag
  F : List Addr
  b : Shared
  env : Env
  ns : List Str
  gs : List (Str × Value)
  gp : GP
  fr : List Addr
/-- a global or built-in name, read off the written top -/
noncomputable def GlOk (K : Frag) (env : Env) (p : Str × Value) : Prop :=
  env.kindOf p.1 = some .globalImplicit ∧ (p.1 == ("__debug__" : Str)) = false ∧ (nsIn K mainGlobals p.1 = some (some p.2) ∨ (nsIn K mainGlobals p.1 = some none ∧ bootBuiltins p.1 = some p.2 ∧ p.1 ≠ "__name__"))
structure FmOk (fm : Fm) : Prop where
  gok : ∀ p ∈ fm.gs, GlOk fm.K fm.env p
  genv : fm.env.globals = mainGlobals ∧ fm.env.builtins = builtinsNs
  top : TP fm.K fm.b.heap
  kF : ∀ a ∈ fm.F, Free fm.K a
  nd : fm.ns.Nodup
  kind : ∀ x ∈ fm.ns, fm.env.kindOf x = some .local
  dbg : ∀ x ∈ fm.ns, (x == ("__debug__" : Str)) = false
  fk : fm.env.scope.kind = .function
  base : fm.b.heap.objs.size ≤ fm.env.locals
  kFr : ∀ a ∈ fm.fr, a ≠ fm.env.locals → Free fm.K a ∧ a ∉ fm.F
noncomputable def Agree : List Str → Vals → (Str → Option Value) → Prop
  | x :: ns, some v :: vs, m => m x = some v ∧ Agree ns vs m
  | _ :: ns, none :: vs, m => Agree ns vs m
  | _, _, _ => True
inductive Get : List Str → Vals → Str → Value → Prop
  | here {x : Str} {ns : List Str} {v : Value} {vs : Vals} : Get (x :: ns) (some v :: vs) x v
  | there {x y : Str} {ns : List Str} {o : Option Value} {v : Value} {vs : Vals} : Get ns vs x v → Get (y :: ns) (o :: vs) x v
inductive Put : List Str → Vals → Str → Value → Vals → Prop
  | here {x : Str} {ns : List Str} {o : Option Value} {v : Value} {vs : Vals} : Put (x :: ns) (o :: vs) x v (some v :: vs)
  | there {x y : Str} {ns : List Str} {o : Option Value} {v : Value} {vs vs' : Vals} : Put ns vs x v vs' → Put (y :: ns) (o :: vs) x v (o :: vs')
theorem Get.mem {ns : List Str} {vs : Vals} {x : Str} {v : Value} (g : Get ns vs x v) : x ∈ ns := by
  induction g with
  | here => exact .head _
  | there _ ih => exact .tail _ ih
theorem Put.mem {ns : List Str} {vs vs' : Vals} {x : Str} {v : Value} (g : Put ns vs x v vs') : x ∈ ns := by
  induction g with
  | here => exact .head _
  | there _ ih => exact .tail _ ih
theorem Get.agree {ns : List Str} {vs : Vals} {x : Str} {v : Value} {m : Str → Option Value} (g : Get ns vs x v) (a : Agree ns vs m) : m x = some v := by
  induction g with
  | here => exact a.1
  | @there x y ns o v vs _ ih => cases o with
    | none => exact ih a
    | some u => exact ih a.2
theorem Agree.off {x : Str} {v : Value} {m : Str → Option Value} : ∀ {ns : List Str} {vs : Vals}, x ∉ ns → Agree ns vs m → Agree ns vs (fun y => if y = x then some v else m y)
  | [], _, _, _ => by unfold Agree; trivial
  | _ :: _, [], _, _ => by unfold Agree; trivial
  | y :: ns, none :: vs, h, a => Agree.off (ns := ns) (vs := vs) (fun q => h (.tail _ q)) a
  | y :: ns, some u :: vs, h, a => ⟨(if_neg (fun q : y = x => h (q ▸ List.Mem.head _))).trans a.1, Agree.off (fun q => h (.tail _ q)) a.2⟩
theorem Put.agree {ns : List Str} {vs vs' : Vals} {x : Str} {v : Value} {m : Str → Option Value} (g : Put ns vs x v vs') (nd : ns.Nodup) (a : Agree ns vs m) : Agree ns vs' (fun y => if y = x then some v else m y) := by
  induction g with
  | @here x ns o v vs =>
    have hx : x ∉ ns := (List.nodup_cons.mp nd).1
    refine ⟨if_pos rfl, Agree.off hx ?_⟩
    cases o with
    | none => exact a
    | some u => exact a.2
  | @there x y ns o v vs vs' g ih =>
    have hy : y ∉ ns := (List.nodup_cons.mp nd).1
    have nd' := (List.nodup_cons.mp nd).2
    cases o with
    | none => exact ih nd' a
    | some u => exact ⟨(if_neg (fun q : y = x => hy (q ▸ g.mem))).trans a.1, ih nd' a.2⟩
noncomputable def Apart (c d : HP) : Prop := ∀ a ∈ c.foot, a ∉ d.foot
structure Sit (fm : Fm) (vs : Vals) (cs : List HP) (s : Shared) : Prop where
  fok : FmOk fm
  gens : fm.gp s.gens s.drawn
  os : s.os = fm.b.os
  ext : ∀ a o, fm.b.heap.get? a = some o → a ∉ fm.F → a ∉ fm.fr → s.heap.get? a = some o
  frs : ∀ a ∈ fm.fr, a ≠ fm.env.locals → ∃ o es ep sl, fm.b.heap.get? a = some o ∧ o.data = .dict es ep ∧ s.heap.get? a = some { o with slots := sl }
  loc : ∃ m, s.heap.Ns fm.env.locals m ∧ Agree fm.ns vs m
  own : ∀ c ∈ cs, c.ok s.heap ∧ (∀ a ∈ c.foot, a ∈ fm.F ∨ fm.b.heap.objs.size ≤ a) ∧ fm.env.locals ∉ c.foot
  apart : cs.Pairwise Apart
section
variable {fm : Fm} {vs vs' : Vals} {cs cs' : List HP} {s : Shared}
/-- an old object that is no frame stands -/
theorem Sit.keep (S : Sit fm vs cs s) {a : Addr} {o : Obj} (e : fm.b.heap.get? a = some o) (ha : a ∉ fm.F) (hd : ∀ es ep, o.data ≠ .dict es ep) : s.heap.get? a = some o := S.ext a o e ha fun q => by
  obtain ⟨o', es, ep, sl, h1, h2, _⟩ := S.frs a q (Nat.ne_of_lt (Nat.lt_of_lt_of_le (Heap.lt_size e) S.fok.base))
  rw [e] at h1; cases h1
  exact hd es ep h2
theorem Sit.top (S : Sit fm vs cs s) : TP fm.K s.heap := by
  refine S.fok.top.lift (F := fm.F ++ fm.fr.filter (fun a => decide (a ≠ fm.env.locals))) (fun a ha => ?_) fun a o e q => S.ext a o e (fun z => q (List.mem_append_left _ z)) fun z => ?_
  · rcases List.mem_append.mp ha with ha | ha
    · exact S.fok.kF a ha
    · obtain ⟨h1, h2⟩ := List.mem_filter.mp ha
      exact (S.fok.kFr a h1 (of_decide_eq_true h2)).1
  · exact q (List.mem_append_right _ (List.mem_filter.mpr ⟨z, decide_eq_true (Nat.ne_of_lt (Nat.lt_of_lt_of_le (Heap.lt_size e) S.fok.base))⟩))
/-- the old frames stand -/
theorem Sit.frsOf (S : Sit fm vs cs s) {h' : Heap} (k : ∀ a o, a ∈ fm.fr → a ≠ fm.env.locals → s.heap.get? a = some o → h'.get? a = some o) : ∀ a ∈ fm.fr, a ≠ fm.env.locals → ∃ o es ep sl, fm.b.heap.get? a = some o ∧ o.data = .dict es ep ∧ h'.get? a = some { o with slots := sl } := fun a ha hn => by
  obtain ⟨o, es, ep, sl, h1, h2, h3⟩ := S.frs a ha hn
  exact ⟨o, es, ep, sl, h1, h2, k a _ ha hn h3⟩
/-- a part holds no old frame -/
theorem Sit.frOff (S : Sit fm vs cs s) {c : HP} (hc : c ∈ cs) {x : Addr} (hx : x ∈ c.foot) : x ∉ fm.fr ∧ x ≠ fm.env.locals := by
  have h2 := (S.own c hc).2
  have hl : x ≠ fm.env.locals := fun q => h2.2 (q ▸ hx)
  refine ⟨fun q => ?_, hl⟩
  rcases h2.1 x hx with z | z
  · exact (S.fok.kFr x q hl).2 z
  · obtain ⟨o, _, _, _, h1, _⟩ := S.frs x q hl
    exact absurd (Heap.lt_size h1) (Nat.not_lt.mpr z)
theorem Sit.toks (S : Sit fm vs cs s) (t : Nat) : Sit fm vs cs { s with toks := t } := ⟨S.fok, S.gens, S.os, S.ext, S.frs, S.loc, S.own, S.apart⟩
theorem Sit.free (S : Sit fm vs cs s) {c : HP} (hc : c ∈ cs) {a : Addr} (ha : a ∈ c.foot) : Free fm.K a :=
  ((S.own c hc).2.1 a ha).elim (fun q => S.fok.kF a q) fun q => S.fok.top.free q
theorem Sit.Llt (S : Sit fm vs cs s) : fm.env.locals < s.heap.objs.size := let ⟨_, n, _⟩ := S.loc; n.lt
theorem Sit.blt (S : Sit fm vs cs s) : fm.b.heap.objs.size < s.heap.objs.size := Nat.lt_of_le_of_lt S.fok.base S.Llt
/-- a local name is stored -/
theorem Sit.store (S : Sit fm vs cs s) {x : Str} {v : Value} {h' : Heap} {t : Nat} (p : Put fm.ns vs x v vs') (hn : ∀ m, s.heap.Ns fm.env.locals m → h'.Ns fm.env.locals (fun y => if y = x then some v else m y))
    (hs : Heap.SameBut fm.env.locals s.heap h') : Sit fm vs' cs { s with heap := h', toks := t } := by
  obtain ⟨m, n, a⟩ := S.loc
  refine ⟨S.fok, S.gens, S.os, fun a o e q q' => ?_, S.frsOf fun a o ha hn e => (hs.2 a hn).trans e, ⟨_, hn m n, p.agree S.fok.nd a⟩, fun c hc => ?_, S.apart⟩
  · exact (hs.2 a (Nat.ne_of_lt (Nat.lt_of_lt_of_le (Heap.lt_size e) S.fok.base))).trans (S.ext a o e q q')
  · obtain ⟨p1, p2, p3⟩ := S.own c hc
    exact ⟨c.loc (fun a ha => hs.2 a fun q => p3 (q ▸ ha)) p1, p2, p3⟩
/-- the heap has grown; new parts -/
theorem Sit.grow (S : Sit fm vs cs s) {cn : List HP} {h' : Heap} {t : Nat} (hk : ∀ a o, s.heap.get? a = some o → h'.get? a = some o) (hc : ∀ c ∈ cn, c.ok h' ∧ ∀ a ∈ c.foot, s.heap.objs.size ≤ a) (ha : cn.Pairwise Apart) :
    Sit fm vs (cn ++ cs) { s with heap := h', toks := t } := by
  obtain ⟨m, n, a⟩ := S.loc
  refine ⟨S.fok, S.gens, S.os, fun a o e q q' => hk _ _ (S.ext a o e q q'), S.frsOf fun a o _ _ e => hk a o e, ⟨m, n.keeps hk, a⟩, fun c q => ?_, ?_⟩
  · rcases List.mem_append.mp q with q | q
    · exact ⟨(hc c q).1, fun a ha => .inr (Nat.le_trans (Nat.le_of_lt S.blt) ((hc c q).2 a ha)), fun z => absurd S.Llt (Nat.not_lt.mpr ((hc c q).2 _ z))⟩
    · obtain ⟨p1, p2, p3⟩ := S.own c q
      exact ⟨c.loc (fun a ha => by obtain ⟨o, ho⟩ := c.lt p1 a ha; rw [ho]; exact hk _ _ ho) p1, p2, p3⟩
  · refine List.pairwise_append.mpr ⟨ha, S.apart, fun c q d q' a z1 z2 => ?_⟩
    obtain ⟨o, ho⟩ := d.lt (S.own d q').1 a z2
    exact absurd (Heap.lt_size ho) (Nat.not_lt.mpr ((hc c q).2 a z1))
theorem Sit.grow1 (S : Sit fm vs cs s) {c : HP} {h' : Heap} {t : Nat} (hk : ∀ a o, s.heap.get? a = some o → h'.get? a = some o) (hc : c.ok h') (hf : ∀ a ∈ c.foot, s.heap.objs.size ≤ a) :
    Sit fm vs (c :: cs) { s with heap := h', toks := t } := S.grow (cn := [c]) hk (fun d q => by cases List.mem_singleton.mp q; exact ⟨hc, hf⟩) (List.pairwise_singleton _ _)
theorem Sit.push (S : Sit fm vs cs s) {o : Obj} {P : Obj → Prop} {t : Nat} (hf : o.isFreed = false) (hp : P o) : Sit fm vs (HP.one s.heap.objs.size P :: cs) { s with heap := s.heap.push o, toks := t } :=
  S.grow1 (fun _ _ e => Heap.get?_push_of_some _ e) ⟨o, Heap.get?_push_size _ hf, hp⟩ fun a ha => by cases List.mem_singleton.mp ha; exact Nat.le_refl _
/-- the first part has changed at one of its addresses -/
theorem Sit.upd {c c' : HP} (S : Sit fm vs (c :: cs) s) {a : Addr} {h' : Heap} {t : Nat} (ha : a ∈ c.foot) (hs : Heap.SameBut a s.heap h') (hf : ∀ x ∈ c'.foot, x ∈ c.foot) (hc : c'.ok h') : Sit fm vs (c' :: cs) { s with heap := h', toks := t } := by
  obtain ⟨m, n, ag⟩ := S.loc
  obtain ⟨p1, p2, p3⟩ := S.own c (.head _)
  have ap := List.pairwise_cons.mp S.apart
  refine ⟨S.fok, S.gens, S.os, fun x o e q q' => ?_, S.frsOf fun x o hx _ e => (hs.2 x fun z => (S.frOff (.head _) ha).1 (z ▸ hx)).trans e, ⟨m, n.sameBut hs fun q => p3 (q ▸ ha), ag⟩, fun d q => ?_, ?_⟩
  · refine (hs.2 x fun z => ?_).trans (S.ext x o e q q')
    subst z
    exact (p2 x ha).elim (fun z => q z) fun z => absurd (Heap.lt_size e) (Nat.not_lt.mpr z)
  · cases q with
    | head => exact ⟨hc, fun x hx => p2 x (hf x hx), fun z => p3 (hf _ z)⟩
    | tail _ q =>
      obtain ⟨q1, q2, q3⟩ := S.own d (.tail _ q)
      exact ⟨d.loc (fun x hx => hs.2 x fun z => ap.1 d q a ha (z ▸ hx)) q1, q2, q3⟩
  · exact List.pairwise_cons.mpr ⟨fun d q x hx => ap.1 d q x (hf x hx), ap.2⟩
theorem apart_symm {c d : HP} (h : Apart c d) : Apart d c := fun a ha hb => h a hb ha
theorem Sit.perm (S : Sit fm vs cs s) (p : cs'.Perm cs) : Sit fm vs cs' s :=
  ⟨S.fok, S.gens, S.os, S.ext, S.frs, S.loc, fun c hc => S.own c (p.mem_iff.mp hc), p.symm.pairwise S.apart (fun h => apart_symm h)⟩
theorem Sit.sub (S : Sit fm vs cs s) (p : cs'.Sublist cs) : Sit fm vs cs' s :=
  ⟨S.fok, S.gens, S.os, S.ext, S.frs, S.loc, fun c hc => S.own c (p.subset hc), S.apart.sublist p⟩
end
noncomputable def feet (cs : List HP) : List Addr := cs.flatMap HP.foot
theorem mem_feet {cs : List HP} {a : Addr} : a ∈ feet cs ↔ ∃ c ∈ cs, a ∈ c.foot := List.mem_flatMap
/-- what a call has done -/
structure Stp (gp : GP) (F fr : List Addr) (cs : List HP) (s s' : Shared) : Prop where
  gens : gp s.gens s.drawn → gp s'.gens s'.drawn
  os : s'.os = s.os
  ext : ∀ a o, s.heap.get? a = some o → a ∉ F → a ∉ fr → s'.heap.get? a = some o
  frs : ∀ a o, s.heap.get? a = some o → a ∈ fr → a ∉ F → ∃ sl, s'.heap.get? a = some { o with slots := sl }
  own : ∀ c ∈ cs, c.ok s'.heap ∧ ∀ a ∈ c.foot, a ∈ F ∨ s.heap.objs.size ≤ a
  apart : cs.Pairwise Apart
structure Own (K : Frag) (fr : List Addr) (cs : List HP) (h : Heap) : Prop where
  own : ∀ c ∈ cs, c.ok h ∧ ∀ a ∈ c.foot, Free K a ∧ a ∉ fr
  apart : cs.Pairwise Apart
theorem Sit.call {fm : Fm} {vs : Vals} {cs₀ cs₁ rest : List HP} {s s' : Shared} (S : Sit fm vs (cs₀ ++ rest) s) (T : Stp fm.gp (feet cs₀) fm.fr cs₁ s s') : Sit fm vs (cs₁ ++ rest) s' := by
  obtain ⟨m, n, ag⟩ := S.loc
  have ap := List.pairwise_append.mp S.apart
  have hL : fm.env.locals ∉ feet cs₀ := fun q => by
    obtain ⟨c, hc, ha⟩ := mem_feet.mp q
    exact (S.own c (List.mem_append_left _ hc)).2.2 ha
  have hfr : ∀ a ∈ fm.fr, a ∉ feet cs₀ := fun a ha q => by
    obtain ⟨c, hc, hx⟩ := mem_feet.mp q
    exact (S.frOff (List.mem_append_left _ hc) hx).1 ha
  have keepNs : s'.heap.Ns fm.env.locals m := by
    obtain ⟨o, es, ep, ho, r⟩ := n
    by_cases hm : fm.env.locals ∈ fm.fr
    · obtain ⟨sl, h'⟩ := T.frs _ _ ho hm hL
      exact ⟨_, es, ep, h', r⟩
    · exact ⟨o, es, ep, T.ext _ _ ho hL hm, r⟩
  refine ⟨S.fok, T.gens S.gens, T.os.trans S.os, fun a o e q q' => ?_, fun a ha hn => ?_, ⟨m, keepNs, ag⟩, fun c hc => ?_, ?_⟩
  · refine T.ext _ _ (S.ext a o e q q') (fun z => ?_) q'
    obtain ⟨c, hc, ha⟩ := mem_feet.mp z
    exact ((S.own c (List.mem_append_left _ hc)).2.1 a ha).elim (fun z => q z) fun z => absurd (Heap.lt_size e) (Nat.not_lt.mpr z)
  · obtain ⟨o, es, ep, sl, h1, h2, h3⟩ := S.frs a ha hn
    obtain ⟨sl', h4⟩ := T.frs _ _ h3 ha (hfr a ha)
    exact ⟨o, es, ep, sl', h1, h2, h4⟩
  · rcases List.mem_append.mp hc with hc | hc
    · obtain ⟨q1, q2⟩ := T.own c hc
      refine ⟨q1, fun a ha => ?_, fun z => ?_⟩
      · rcases q2 a ha with z | z
        · obtain ⟨d, hd, hx⟩ := mem_feet.mp z
          exact (S.own d (List.mem_append_left _ hd)).2.1 a hx
        · exact .inr (Nat.le_trans (Nat.le_of_lt S.blt) z)
      · exact (q2 _ z).elim (fun y => hL y) fun y => absurd S.Llt (Nat.not_lt.mpr y)
    · obtain ⟨q1, q2, q3⟩ := S.own c (List.mem_append_right _ hc)
      refine ⟨c.loc (fun a ha => ?_) q1, q2, q3⟩
      obtain ⟨o, ho⟩ := c.lt q1 a ha
      rw [ho]
      refine T.ext _ _ ho (fun z => ?_) (S.frOff (List.mem_append_right _ hc) ha).1
      obtain ⟨d, hd, hx⟩ := mem_feet.mp z
      exact ap.2.2 d hd c hc a hx ha
  · refine List.pairwise_append.mpr ⟨T.apart, ap.2.1, fun c hc d hd a h1 h2 => ?_⟩
    rcases (T.own c hc).2 a h1 with z | z
    · obtain ⟨e, he, hx⟩ := mem_feet.mp z
      exact ap.2.2 e he d hd a hx h2
    · obtain ⟨o, ho⟩ := d.lt (S.own d (List.mem_append_right _ hd)).1 a h2
      exact absurd (Heap.lt_size ho) (Nat.not_lt.mpr z)
theorem Sit.owned {fm : Fm} {vs : Vals} {cs₀ rest : List HP} {s : Shared} (S : Sit fm vs (cs₀ ++ rest) s) : Own fm.K fm.fr cs₀ s.heap :=
  ⟨fun c hc => ⟨(S.own c (List.mem_append_left _ hc)).1, fun _ ha => ⟨S.free (List.mem_append_left _ hc) ha, (S.frOff (List.mem_append_left _ hc) ha).1⟩⟩, (List.pairwise_append.mp S.apart).1⟩
/-- the frames, as a callee finds them -/
noncomputable def FrH (K : Frag) (fr : List Addr) (h : Heap) : Prop := ∀ a ∈ fr, Free K a ∧ ∃ o es ep, h.get? a = some o ∧ o.data = .dict es ep
theorem Sit.frH {fm : Fm} {vs : Vals} {cs : List HP} {s : Shared} (S : Sit fm vs cs s) : FrH fm.K fm.fr s.heap := fun a ha => by
  by_cases h : a = fm.env.locals
  · subst h
    obtain ⟨m, ⟨o, es, ep, ho, hd, _⟩, _⟩ := S.loc
    exact ⟨S.fok.top.free S.fok.base, o, es, ep, ho, hd⟩
  · obtain ⟨o, es, ep, sl, h1, h2, h3⟩ := S.frs a ha h
    exact ⟨(S.fok.kFr a ha h).1, _, es, ep, h3, h2⟩
theorem Sit.leave {fm : Fm} {vs : Vals} {cs₁ junk : List HP} {s : Shared} (S : Sit fm vs (cs₁ ++ junk) s) {fr : List Addr} (hf : ∀ a ∈ fm.fr, a ≠ fm.env.locals → a ∈ fr) : Stp fm.gp fm.F fr cs₁ fm.b s :=
  ⟨fun _ => S.gens, S.os, fun a o e q q' => S.ext a o e q fun z => q' (hf a z (Nat.ne_of_lt (Nat.lt_of_lt_of_le (Heap.lt_size e) S.fok.base))), fun a o e q q' => by
    have hn : a ≠ fm.env.locals := Nat.ne_of_lt (Nat.lt_of_lt_of_le (Heap.lt_size e) S.fok.base)
    by_cases hm : a ∈ fm.fr
    · obtain ⟨o', es, ep, sl, h1, h2, h3⟩ := S.frs a hm hn
      rw [e] at h1; cases h1
      exact ⟨sl, h3⟩
    · exact ⟨o.slots, S.ext a o e q' hm⟩, fun c hc => let z := S.own c (List.mem_append_left _ hc); ⟨z.1, z.2.1⟩, (List.pairwise_append.mp S.apart).1⟩
/-- the room for calls -/
structure Rm (A : Around) (k : Nat) : Prop where
  handled : A.handled = none
  depth : A.depth + k < recursionLimit
  units : A.units + 16 * k + 100 < cLine
theorem Rm.le {A : Around} {k j : Nat} (h : Rm A k) (e : j ≤ k) : Rm A j := ⟨h.handled, by have := h.depth; omega, by have := h.units; omega⟩
theorem Rm.cmp {A : Around} {k : Nat} (h : Rm A k) : A.units + 64 < cLine := by have := h.units; omega
theorem Rm.deeper {A : Around} {k : Nat} {env : Env} (h : Rm A (k + 1)) : Rm (A.deeper env) k := ⟨h.handled, by have := h.depth; show A.depth + 1 + k < _; omega, by have := h.units; show A.units + 3 + 16 * k + 100 < _; omega⟩
noncomputable def Post (α : Type) := α → Vals → List HP → Prop
/-- a state that fits, and what is said of it -/
inductive At (fm : Fm) (P : Vals → List HP → Prop) (s' : Shared) : Prop | mk (vs' : Vals) (cs' : List HP) (S : Sit fm vs' cs' s') (q : P vs' cs') : At fm P s'
noncomputable def G {α : Type} (w : World) (A : Around) (fm : Fm) (t : Sem α) (Q : α → Vals → List HP → Prop) (E : Value → Vals → List HP → Prop) (vs : Vals) (cs : List HP) : Prop :=
  ∀ s, Sit fm vs cs s → wpAny (MD w) A t (fun a => At fm (Q a)) (fun e => At fm (E e)) s
/-- names the frame and the aim -/
theorem letG {α : Type} {w : World} {A : Around} {fm : Fm} {t : Sem α} {Q : α → Vals → List HP → Prop} {E : Value → Vals → List HP → Prop} {vs : Vals} {cs : List HP} (h : let f := fm; let q := Q; G w A f t q E vs cs) : G w A fm t Q E vs cs := h
/- what stands behind a part of a term: named, so that the terms of a walk stay short -/
section
variable (w : World) (A : Around) (fm : Fm)
noncomputable abbrev KC {α β : Type} (T : α → Sem β) (Q : β → Vals → List HP → Prop) (E : Value → Vals → List HP → Prop) (a : α) (vs : Vals) (cs : List HP) : Prop := G w A fm (T a) Q E vs cs
noncomputable abbrev BodyK {α : Type} (body : List Stmt) (Q : Flow → Vals → List HP → Prop) (E : Value → Vals → List HP → Prop) (a : α) (vs : Vals) (cs : List HP) : Prop := G w A fm (execs body fm.env) Q E vs cs
noncomputable abbrev BinK (r : Expr) (T : Value → Value → Sem Value) (Q : Value → Vals → List HP → Prop) (E : Value → Vals → List HP → Prop) (a : Value) (vs : Vals) (cs : List HP) : Prop := G w A fm (eval r fm.env) (KC w A fm (T a) Q E) E vs cs
noncomputable abbrev IfK (body orelse : List Stmt) (Q : Flow → Vals → List HP → Prop) (E : Value → Vals → List HP → Prop) (b : Bool) (vs : Vals) (cs : List HP) : Prop := bif b then G w A fm (execs body fm.env) Q E vs cs else G w A fm (execs orelse fm.env) Q E vs cs
noncomputable abbrev AndK (rest : List Expr) (Q : Bool → Vals → List HP → Prop) (E : Value → Vals → List HP → Prop) (b : Bool) (vs : Vals) (cs : List HP) : Prop := bif b then G w A fm (allTrue .And rest fm.env) Q E vs cs else Q false vs cs
noncomputable abbrev OrK (rest : List Expr) (Q : Bool → Vals → List HP → Prop) (E : Value → Vals → List HP → Prop) (b : Bool) (vs : Vals) (cs : List HP) : Prop := bif b then Q true vs cs else G w A fm (allTrue .Or rest fm.env) Q E vs cs
noncomputable abbrev ConsK (Q : List Value → Vals → List HP → Prop) (v : Value) (xs : List Value) (vs : Vals) (cs : List HP) : Prop := Q (v :: xs) vs cs
noncomputable abbrev ArgK (p : Pos) (rest : List Expr) (Q : List Value → Vals → List HP → Prop) (E : Value → Vals → List HP → Prop) (v : Value) (vs : Vals) (cs : List HP) : Prop := G w A fm (spliced (backTo p (starEach rest fm.env))) (ConsK Q v) E vs cs
noncomputable abbrev CallK (f : Value) (first : List Value) (Q : Value → Vals → List HP → Prop) (E : Value → Vals → List HP → Prop) (xs : List Value) (vs : Vals) (cs : List HP) : Prop := G w A fm (call f (first ++ xs)) Q E vs cs
noncomputable abbrev Call0K (f : Value) (Q : Value → Vals → List HP → Prop) (E : Value → Vals → List HP → Prop) (xs : List Value) (vs : Vals) (cs : List HP) : Prop := G w A fm (call f xs) Q E vs cs
noncomputable abbrev Call1K (f x : Value) (Q : Value → Vals → List HP → Prop) (E : Value → Vals → List HP → Prop) (xs : List Value) (vs : Vals) (cs : List HP) : Prop := G w A fm (call f (x :: xs)) Q E vs cs
noncomputable abbrev CallWK (p : Pos) (args : List Expr) (Q : Value → Vals → List HP → Prop) (E : Value → Vals → List HP → Prop) (f : Value) (vs : Vals) (cs : List HP) : Prop := G w A fm (callWith p f [] (backTo p (starEach args fm.env)) []) Q E vs cs
noncomputable abbrev AttrK (attr : Str) (Q : Value → Vals → List HP → Prop) (E : Value → Vals → List HP → Prop) (o : Value) (vs : Vals) (cs : List HP) : Prop := G w A fm (getAttr o attr true) Q E vs cs
end
noncomputable abbrev RetK (Q : Flow → Vals → List HP → Prop) (v : Value) (vs : Vals) (cs : List HP) : Prop := Q (.ret v) vs cs
noncomputable abbrev NotK (Q : Bool → Vals → List HP → Prop) (b : Bool) (vs : Vals) (cs : List HP) : Prop := Q (!b) vs cs
noncomputable abbrev NextK {α : Type} (Q : Flow → Vals → List HP → Prop) (a : α) (vs : Vals) (cs : List HP) : Prop := Q .next vs cs
noncomputable abbrev ExprK (Q : Flow → Vals → List HP → Prop) (v : Value) (vs : Vals) (cs : List HP) : Prop := (∀ a, v ≠ .ref a) ∧ Q .next vs cs
noncomputable abbrev TyOk (fm : Fm) (vs : Vals) (cs : List HP) (ov : Value) (T : String) : Prop := ∀ s, Sit fm vs cs s → s.TypeIs ov T ∧ ∀ a, ov = .ref a → ∃ ob, s.heap.get? a = some ob ∧ ob.dict = none
section
variable (w : World) (A : Around) (fm : Fm)
noncomputable abbrev SetK (attr : Str) (Q : Flow → Vals → List HP → Prop) (E : Value → Vals → List HP → Prop) (v ov : Value) (vs : Vals) (cs : List HP) : Prop := G w A fm (setAttr ov attr v) (NextK Q) E vs cs
noncomputable abbrev AsgAK (o : Expr) (attr : Str) (Q : Flow → Vals → List HP → Prop) (E : Value → Vals → List HP → Prop) (v : Value) (vs : Vals) (cs : List HP) : Prop := G w A fm (eval o fm.env) (SetK w A fm attr Q E v) E vs cs
noncomputable abbrev AugK3 (attr : Str) (Q : Flow → Vals → List HP → Prop) (E : Value → Vals → List HP → Prop) (ov new : Value) (vs : Vals) (cs : List HP) : Prop := G w A fm (setAttr ov attr new) (NextK Q) E vs cs
noncomputable abbrev AugK2 (attr : Str) (op : Operator) (Q : Flow → Vals → List HP → Prop) (E : Value → Vals → List HP → Prop) (ov old v : Value) (vs : Vals) (cs : List HP) : Prop := G w A fm (inplaceOp op old v) (AugK3 w A fm attr Q E ov) E vs cs
noncomputable abbrev AugK1 (attr : Str) (value : Expr) (op : Operator) (Q : Flow → Vals → List HP → Prop) (E : Value → Vals → List HP → Prop) (ov old : Value) (vs : Vals) (cs : List HP) : Prop := G w A fm (eval value fm.env) (AugK2 w A fm attr op Q E ov old) E vs cs
noncomputable abbrev AugK0 (attr : Str) (value : Expr) (op : Operator) (Q : Flow → Vals → List HP → Prop) (E : Value → Vals → List HP → Prop) (ov : Value) (vs : Vals) (cs : List HP) : Prop := G w A fm (getAttr ov attr true) (AugK1 w A fm attr value op Q E ov) E vs cs
noncomputable abbrev M2E (id : String) (Q : Value → Vals → List HP → Prop) (E : Value → Vals → List HP → Prop) (ov v v' : Value) (vs : Vals) (cs : List HP) : Prop := G w A fm (call (.builtin id) [ov, v, v']) Q E vs cs
noncomputable abbrev M2D (id : String) (e' : Expr) (Q : Value → Vals → List HP → Prop) (E : Value → Vals → List HP → Prop) (ov v : Value) (vs : Vals) (cs : List HP) : Prop := G w A fm (eval e' fm.env) (M2E w A fm id Q E ov v) E vs cs
noncomputable abbrev M2K (T id : String) (e e' : Expr) (Q : Value → Vals → List HP → Prop) (E : Value → Vals → List HP → Prop) (ov : Value) (vs : Vals) (cs : List HP) : Prop := TyOk fm vs cs ov T ∧ G w A fm (eval e fm.env) (M2D w A fm id e' Q E ov) E vs cs
noncomputable abbrev M1D (id : String) (Q : Value → Vals → List HP → Prop) (E : Value → Vals → List HP → Prop) (ov v : Value) (vs : Vals) (cs : List HP) : Prop := G w A fm (call (.builtin id) [ov, v]) Q E vs cs
noncomputable abbrev M1K (T id : String) (e : Expr) (Q : Value → Vals → List HP → Prop) (E : Value → Vals → List HP → Prop) (ov : Value) (vs : Vals) (cs : List HP) : Prop := TyOk fm vs cs ov T ∧ G w A fm (eval e fm.env) (M1D w A fm id Q E ov) E vs cs
noncomputable abbrev M0K (T id : String) (Q : Value → Vals → List HP → Prop) (E : Value → Vals → List HP → Prop) (ov : Value) (vs : Vals) (cs : List HP) : Prop := TyOk fm vs cs ov T ∧ G w A fm (call (.builtin id) [ov]) Q E vs cs
end
theorem At.go {α : Type} {w : World} {A : Around} {fm : Fm} {t : Sem α} {Q : α → Vals → List HP → Prop} {E : Value → Vals → List HP → Prop} {s : Shared} (h : At fm (G w A fm t Q E) s) : wpAny (MD w) A t (fun a => At fm (Q a)) (fun e => At fm (E e)) s := h.casesOn fun _ _ S q => q s S
section
variable {α β : Type} {w : World} {A : Around} {fm : Fm} {vs vs' : Vals} {cs cs' : List HP} {E : Value → Vals → List HP → Prop}
theorem G.mono {t : Sem α} {Q Q' : α → Vals → List HP → Prop} {E' : Value → Vals → List HP → Prop} (h : G w A fm t Q E vs cs) (hq : ∀ a vs cs, Q a vs cs → Q' a vs cs) (he : ∀ a vs cs, E a vs cs → E' a vs cs) : G w A fm t Q' E' vs cs :=
  fun s S => wpAny_mono (h s S) (fun a _ ⟨v, c, p, q⟩ => ⟨v, c, p, hq a v c q⟩) fun a _ ⟨v, c, p, q⟩ => ⟨v, c, p, he a v c q⟩
theorem G_pure {a : α} {Q : α → Vals → List HP → Prop} (h : Q a vs cs) : G w A fm (pure a) Q E vs cs := fun s S => wpAny_pure ⟨vs, cs, S, h⟩
theorem G_bind {m : Sem α} {f : α → Sem β} {Q : β → Vals → List HP → Prop} (h : G w A fm m (KC w A fm f Q E) E vs cs) : G w A fm (m >>= f) Q E vs cs :=
  fun s S => wpAny_bind (wpAny_mono (h s S) (fun _ s' ⟨_, _, p, q⟩ => q s' p) fun _ _ x => x)
theorem G_perm {t : Sem α} {Q : α → Vals → List HP → Prop} (p : cs'.Perm cs) (h : G w A fm t Q E vs cs') : G w A fm t Q E vs cs := fun s S => h s (S.perm p)
theorem G_sub {t : Sem α} {Q : α → Vals → List HP → Prop} (p : cs'.Sublist cs) (h : G w A fm t Q E vs cs') : G w A fm t Q E vs cs := fun s S => h s (S.sub p)
/-- facts that hold of any state at hand -/
theorem G_know {t : Sem α} {Q : α → Vals → List HP → Prop} {P : Prop} (p : ∀ s, Sit fm vs cs s → P) (h : P → G w A fm t Q E vs cs) : G w A fm t Q E vs cs := fun s S => h (p s S) s S
/-- the step from the raw rule: a value, the state as it was -/
theorem G_of {t : Sem α} {Q : α → Vals → List HP → Prop} (h : ∀ s, Sit fm vs cs s → wpAny (MD w) A t (fun a => At fm (Q a)) (fun e => At fm (E e)) s) : G w A fm t Q E vs cs := h
end
end
end
section
open PySem PySem.W PyProof.Rows PySem.Calls
section
noncomputable def notStar : Expr → Bool
  | .Starred _ _ => false
  | _ => true
noncomputable def notComp : Expr → Bool
  | .ListComp .. => false
  | .SetComp .. => false
  | .DictComp .. => false
  | _ => true
noncomputable def plainBase : Expr → Bool
  | .Call .. => false
  | _ => true
theorem star_of {e : Expr} {rest : List Expr} {env : Env} (h : notStar e = true) : starEach (e :: rest) env = (false, eval e env) :: starEach rest env := by cases e <;> first | rfl | cases h
theorem plain_of {p : Pos} {env : Env} : ∀ {rest : List Expr}, rest.all notStar = true → (backTo p (starEach rest env)).any (·.1) = false
  | [], _ => rfl
  | e :: rest, h => by
    obtain ⟨h1, h2⟩ := Bool.and_eq_true_iff.mp (List.all_cons ▸ h)
    rw [star_of h1]
    show (false || (backTo p (starEach rest env)).any (·.1)) = false
    rw [plain_of h2]; rfl
theorem swap_of {value : Expr} {t : Option Expr} {n : Nat} {env : Env} (h : notComp value = true) : swapsWith value t n env = pure false := by cases value <;> first | rfl | cases h
theorem base_of {o : Expr} {name : Str} {env : Env} {t : Sem Value} (h : plainBase o = true) : attributeBase o name env t = t := by cases o <;> first | rfl | cases h
noncomputable def plainTest : Expr → Bool
  | .UnaryOp .. => false
  | .BoolOp .. => false
  | .IfExp .. => false
  | .Compare .. => false
  | _ => true
theorem test_of {e : Expr} {env : Env} {whole : Sem Value} (h : plainTest e = true) : isTrue e env whole = (do let v ← whole; standAt e.pos; holding [v] (truthy v)) := by cases e <;> first | rfl | cases h
theorem bif_t {X Y : Prop} (h : X) : bif true then X else Y := h
theorem bif_f {X Y : Prop} (h : Y) : bif false then X else Y := h
theorem bif_nf {X Y : Prop} (h : X) : bif !false then X else Y := h
theorem bif_nt {X Y : Prop} (h : Y) : bif !true then X else Y := h
theorem bif_s {b : Bool} {X Y : Prop} (ht : b = true → X) (hf : b = false → Y) : bif b then X else Y := by
  cases b
  · exact hf rfl
  · exact ht rfl
inductive In2 : List (Str × Value) → Str → Value → Prop
  | here {x : Str} {v : Value} {l : List (Str × Value)} : In2 ((x, v) :: l) x v
  | there {x : Str} {v : Value} {p : Str × Value} {l : List (Str × Value)} : In2 l x v → In2 (p :: l) x v
theorem In2.mem {l : List (Str × Value)} {x : Str} {v : Value} (h : In2 l x v) : (x, v) ∈ l := by
  induction h with
  | here => exact .head _
  | there _ ih => exact .tail _ ih
section
variable {w : World} {A : Around} {fm : Fm} {vs : Vals} {cs : List HP} {E : Value → Vals → List HP → Prop}
theorem G_Name {x : Str} {p : Pos} {v : Value} {Q : Value → Vals → List HP → Prop} (g : Get fm.ns vs x v) (h : Q v vs cs) : G w A fm (eval (.Name x p) fm.env) Q E vs cs := fun s S => by
  obtain ⟨m, n, a⟩ := S.loc
  exact wpAny_Name (wpAny_loadName_local S.fok.fk (S.fok.kind x g.mem) n (g.agree a) ⟨vs, cs, S, h⟩) (S.fok.dbg x g.mem)
theorem G_Glob {x : Str} {p : Pos} {v : Value} {Q : Value → Vals → List HP → Prop} (g : In2 fm.gs x v) (h : Q v vs cs) : G w A fm (eval (.Name x p) fm.env) Q E vs cs := fun s S => by
  obtain ⟨hk, hd, e⟩ := S.fok.gok _ g.mem
  obtain ⟨mg, ng⟩ := S.top.gl
  obtain ⟨mb, nb, eb⟩ := S.top.bi
  rw [← S.fok.genv.1] at ng
  rw [← S.fok.genv.2] at nb
  have ng' := ng
  rw [S.fok.genv.1] at ng'
  rcases e with e | ⟨e, e2, e3⟩
  · exact Calls.Name_function_global S.fok.fk hk (Calls.loadGlobal_global ng (mg_of S.top.kin ng' e) ⟨vs, cs, S, h⟩) hd
  · exact Calls.Name_function_global S.fok.fk hk (Calls.loadGlobal_builtin ng (mg_none_of S.top.kin ng' e) nb ((eb x e3).trans e2) ⟨vs, cs, S, h⟩) hd
theorem G_store {x : Str} {v : Value} {vs' : Vals} {Q : Unit → Vals → List HP → Prop} (g : Put fm.ns vs x v vs') (h : Q () vs' cs) : G w A fm (storeName fm.env x v) Q E vs cs := fun s S => by
  obtain ⟨m, n, a⟩ := S.loc
  refine wpAny_storeName_local (S.fok.kind x g.mem) n (fun h' hn hs => ⟨vs', cs, ?_, h⟩) (by rw [S.fok.fk]; rfl)
  refine ⟨S.fok, S.gens, S.os, fun a o e q q' => ?_, S.frsOf fun a o ha hn e => (hs.2 a hn).trans e, ⟨_, hn, g.agree S.fok.nd a⟩, fun c hc => ?_, S.apart⟩
  · exact (hs.2 a (Nat.ne_of_lt (Nat.lt_of_lt_of_le (Heap.lt_size e) S.fok.base))).trans (S.ext a o e q q')
  · obtain ⟨p1, p2, p3⟩ := S.own c hc
    exact ⟨c.loc (fun a ha => hs.2 a fun q => p3 (q ▸ ha)) p1, p2, p3⟩
theorem G_int {i : Int} {k : Nat} {p : Pos} {Q : Value → Vals → List HP → Prop} (h : ∀ t, Q (.int i t) vs cs) : G w A fm (eval (.Constant (.int i) k p) fm.env) Q E vs cs := fun s S => wpAny_Constant_int ⟨vs, cs, S.toks _, h _⟩
theorem G_str {x : Str} {k : Nat} {p : Pos} {Q : Value → Vals → List HP → Prop} (h : ∀ t, Q (.str x t) vs cs) : G w A fm (eval (.Constant (.str x) k p) fm.env) Q E vs cs := fun s S => by
  first | exact wpAny_Constant_str ⟨vs, cs, S.toks _, h _⟩ | exact wpAny_Constant_str ⟨vs, cs, S, h _⟩
theorem G_bool {b : Bool} {k : Nat} {p : Pos} {Q : Value → Vals → List HP → Prop} (h : Q (.bool b) vs cs) : G w A fm (eval (.Constant (.bool b) k p) fm.env) Q E vs cs := fun s S => wpAny_Constant_bool ⟨vs, cs, S, h⟩
theorem G_none {k : Nat} {p : Pos} {Q : Value → Vals → List HP → Prop} (h : Q .none vs cs) : G w A fm (eval (.Constant .none k p) fm.env) Q E vs cs := fun s S => wpAny_Constant_none ⟨vs, cs, S, h⟩
theorem G_execs_nil {Q : Flow → Vals → List HP → Prop} (h : Q .next vs cs) : G w A fm (execs [] fm.env) Q E vs cs := fun s S => wpAny_execs_nil ⟨vs, cs, S, h⟩
/-- what stands behind a statement -/
noncomputable def Thn (w : World) (A : Around) (fm : Fm) (rest : List Stmt) (Q : Flow → Vals → List HP → Prop) (E : Value → Vals → List HP → Prop) : Flow → Vals → List HP → Prop
  | .next, vs, cs => G w A fm (execs rest fm.env) Q E vs cs
  | f, vs, cs => Q f vs cs
theorem Thn_next {rest : List Stmt} {Q : Flow → Vals → List HP → Prop} (h : G w A fm (execs rest fm.env) Q E vs cs) : Thn w A fm rest Q E .next vs cs := h
theorem Thn_ret {rest : List Stmt} {Q : Flow → Vals → List HP → Prop} {v : Value} (h : Q (.ret v) vs cs) : Thn w A fm rest Q E (.ret v) vs cs := h
theorem Thn_brk {rest : List Stmt} {Q : Flow → Vals → List HP → Prop} (h : Q .brk vs cs) : Thn w A fm rest Q E .brk vs cs := h
theorem Thn_cont {rest : List Stmt} {Q : Flow → Vals → List HP → Prop} (h : Q .cont vs cs) : Thn w A fm rest Q E .cont vs cs := h
theorem G_cons {st : Stmt} {rest : List Stmt} {Q : Flow → Vals → List HP → Prop} (h : G w A fm (exec st fm.env) (Thn w A fm rest Q E) E vs cs) : G w A fm (execs (st :: rest) fm.env) Q E vs cs := fun s S => by
  refine wpAny_execs_cons (wpAny_mono (h s S) (fun f s' x => ?_) fun _ _ x => x)
  obtain ⟨v, c, p, q⟩ := x
  cases f with
  | next => exact q s' p
  | _ => exact ⟨v, c, p, q⟩
theorem G_Return {e : Expr} {p : Pos} {Q : Flow → Vals → List HP → Prop} (h : G w A fm (eval e fm.env) (RetK Q) E vs cs) : G w A fm (exec (.Return (some e) p) fm.env) Q E vs cs := fun s S => wpAny_Return_some (h s S)
theorem G_Pass {p : Pos} {Q : Flow → Vals → List HP → Prop} (h : Q .next vs cs) : G w A fm (exec (.Pass p) fm.env) Q E vs cs := fun s S => wpAny_Pass ⟨vs, cs, S, h⟩
theorem G_Break {p : Pos} {Q : Flow → Vals → List HP → Prop} (h : Q .brk vs cs) : G w A fm (exec (.Break p) fm.env) Q E vs cs := fun s S => wpAny_Break ⟨vs, cs, S, h⟩
theorem G_Continue {p : Pos} {Q : Flow → Vals → List HP → Prop} (h : Q .cont vs cs) : G w A fm (exec (.Continue p) fm.env) Q E vs cs := fun s S => wpAny_Continue ⟨vs, cs, S, h⟩
/-- what stands behind the value of an assignment -/
inductive ASG (ns : List Str) (x : Str) (P : Vals → List HP → Prop) (v : Value) (vs₁ : Vals) (cs : List HP) : Prop | mk (vs₂ : Vals) (g : Put ns vs₁ x v vs₂) (q : P vs₂ cs) : ASG ns x P v vs₁ cs
theorem G_Assign {x : Str} {p' p : Pos} {value : Expr} {Q : Flow → Vals → List HP → Prop} (h : G w A fm (eval value fm.env) (ASG fm.ns x (Q .next)) E vs cs)
    (hs : notComp value = true) : G w A fm (exec (.Assign [.Name x p'] value p) fm.env) Q E vs cs := fun s S => by
  refine wpAny_Assign_Name (wpAny_mono (h s S) (fun v s₁ x => ?_) fun _ _ x => x) (swap_of hs)
  obtain ⟨v1, c1, S1, v2, g, q⟩ := x
  exact G_store (Q := fun _ => Q .next) g q s₁ S1
theorem G_If {test : Expr} {body orelse : List Stmt} {p : Pos} {Q : Flow → Vals → List HP → Prop}
    (h : G w A fm (isTrue test fm.env (eval test fm.env)) (IfK w A fm body orelse Q E) E vs cs) : G w A fm (exec (.If test body orelse p) fm.env) Q E vs cs := fun s S => by
  refine wpAny_If (wpAny_mono (h s S) (fun b s₁ x => ?_) fun _ _ x => x)
  obtain ⟨v, c, S', q⟩ := x
  cases b
  · exact q s₁ S'
  · exact q s₁ S'
theorem G_test {e : Expr} {whole : Sem Value} {Q : Bool → Vals → List HP → Prop} (h : G w A fm whole (KC w A fm truthy Q E) E vs cs)
    (he : plainTest e = true) : G w A fm (isTrue e fm.env whole) Q E vs cs := fun s S =>
  wpAny_isTrue_value (wpAny_mono (h s S) (fun v s₁ y => At.go y) fun _ _ x => x) (test_of he)
theorem G_tNot {e : Expr} {p : Pos} {whole : Sem Value} {Q : Bool → Vals → List HP → Prop} (h : G w A fm (isTrue e fm.env (eval e fm.env)) (NotK Q) E vs cs) : G w A fm (isTrue (.UnaryOp .Not e p) fm.env whole) Q E vs cs := fun s S =>
  wpAny_isTrue_Not (h s S)
theorem G_truthy_bool {b : Bool} {Q : Bool → Vals → List HP → Prop} (h : Q b vs cs) : G w A fm (truthy (.bool b)) Q E vs cs := fun s S => wpAny_truthy_bool ⟨vs, cs, S, h⟩
theorem G_tCmp {l r : Expr} {op : CmpOp} {p : Pos} {whole : Sem Value} {Q : Bool → Vals → List HP → Prop}
    (h : G w A fm (eval l fm.env) (BinK w A fm r (compareOp op) (KC w A fm truthy Q E) E) E vs cs)
    (hm : behindInMarks op r = false) : G w A fm (isTrue (.Compare l [op] [r] p) fm.env whole) Q E vs cs := fun s S =>
  wpAny_isTrue_Compare1 (wpAny_mono (h s S) (fun a s₁ y => wpAny_mono (At.go y) (fun b s₂ y => wpAny_mono (At.go y) (fun c s₃ y => At.go y) fun _ _ x => x) fun _ _ x => x) fun _ _ x => x) hm
theorem G_Cmp {l r : Expr} {op : CmpOp} {p : Pos} {Q : Value → Vals → List HP → Prop}
    (h : G w A fm (eval l fm.env) (BinK w A fm r (compareOp op) Q E) E vs cs)
    (hm : behindInMarks op r = false) : G w A fm (eval (.Compare l [op] [r] p) fm.env) Q E vs cs := fun s S =>
  wpAny_Compare1 (wpAny_mono (h s S) (fun a s₁ y => wpAny_mono (At.go y) (fun b s₂ y => At.go y) fun _ _ x => x) fun _ _ x => x) hm
theorem G_BinOp {l r : Expr} {op : Operator} {p : Pos} {Q : Value → Vals → List HP → Prop}
    (h : G w A fm (eval l fm.env) (BinK w A fm r (binaryOp op) Q E) E vs cs) : G w A fm (eval (.BinOp l op r p) fm.env) Q E vs cs := fun s S =>
  wpAny_BinOp (wpAny_mono (h s S) (fun a s₁ y => wpAny_mono (At.go y) (fun b s₂ y => At.go y) fun _ _ x => x) fun _ _ x => x)
theorem G_tBool {op : BoolOp} {values : List Expr} {p : Pos} {whole : Sem Value} {Q : Bool → Vals → List HP → Prop} (h : G w A fm (allTrue op values fm.env) Q E vs cs) : G w A fm (isTrue (.BoolOp op values p) fm.env whole) Q E vs cs := fun s S => wpAny_isTrue_BoolOp (h s S)
theorem G_and_nil {Q : Bool → Vals → List HP → Prop} (h : Q true vs cs) : G w A fm (allTrue .And [] fm.env) Q E vs cs := fun s S => wpAny_allTrue_And_nil ⟨vs, cs, S, h⟩
theorem G_or_nil {Q : Bool → Vals → List HP → Prop} (h : Q false vs cs) : G w A fm (allTrue .Or [] fm.env) Q E vs cs := fun s S => wpAny_allTrue_Or_nil ⟨vs, cs, S, h⟩
theorem G_and {x : Expr} {rest : List Expr} {Q : Bool → Vals → List HP → Prop} (h : G w A fm (isTrue x fm.env (eval x fm.env)) (AndK w A fm rest Q E) E vs cs) :
    G w A fm (allTrue .And (x :: rest) fm.env) Q E vs cs := fun s S => by
  refine wpAny_allTrue_And_cons (wpAny_mono (h s S) (fun b s₁ x => ?_) fun _ _ x => x)
  obtain ⟨v, c, S', q⟩ := x
  cases b
  · exact ⟨v, c, S', q⟩
  · exact q s₁ S'
theorem G_or {x : Expr} {rest : List Expr} {Q : Bool → Vals → List HP → Prop} (h : G w A fm (isTrue x fm.env (eval x fm.env)) (OrK w A fm rest Q E) E vs cs) :
    G w A fm (allTrue .Or (x :: rest) fm.env) Q E vs cs := fun s S => by
  refine wpAny_allTrue_Or_cons (wpAny_mono (h s S) (fun b s₁ x => ?_) fun _ _ x => x)
  obtain ⟨v, c, S', q⟩ := x
  cases b
  · exact q s₁ S'
  · exact ⟨v, c, S', q⟩
theorem G_args_nil {p : Pos} {Q : List Value → Vals → List HP → Prop} (h : Q [] vs cs) : G w A fm (spliced (backTo p (starEach [] fm.env))) Q E vs cs := fun s S => spliced_nil ⟨vs, cs, S, h⟩
theorem G_args {p : Pos} {e : Expr} {rest : List Expr} {Q : List Value → Vals → List HP → Prop} (h : G w A fm (eval e fm.env) (ArgK w A fm p rest Q E) E vs cs)
    (he : notStar e = true) : G w A fm (spliced (backTo p (starEach (e :: rest) fm.env))) Q E vs cs := fun s S => by
  rw [star_of he]
  show wpAny _ _ (spliced ((false, eval e fm.env) :: backTo p (starEach rest fm.env))) _ _ _
  refine spliced_cons (wpAny_mono (h s S) (fun v s₁ x => ?_) fun _ _ x => x)
  obtain ⟨_, _, S', q⟩ := x
  exact q s₁ S'
/-- the callee keeps its own, or the machine does -/
noncomputable def Keeps (w : World) (K : Frag) (f : Value) : Prop := ∀ h, K.In h → ∃ k, (k = Keeper.frame ∨ k = Keeper.machine ∨ k = Keeper.boundFrame) ∧ Looks (MD w) h (keeperOf f) k
theorem G_callWith {p : Pos} {f : Value} {first : List Value} {e : Expr} {rest : List Expr} {Q : Value → Vals → List HP → Prop} (hk : Keeps w fm.K f)
    (h : G w A fm (spliced (backTo p (starEach (e :: rest) fm.env))) (CallK w A fm f first Q E) E vs cs)
    (he : (e :: rest).all notStar = true) :
    G w A fm (callWith p f first (backTo p (starEach (e :: rest) fm.env)) []) Q E vs cs := fun s S => by
  have h' := h s S
  obtain ⟨he, hr⟩ := Bool.and_eq_true_iff.mp (List.all_cons ▸ he)
  have hplain := plain_of (p := p) (env := fm.env) hr
  rw [star_of he] at h' ⊢
  exact callWith_of (by show ((false || (backTo p (starEach rest fm.env)).any (·.1)) || false) = false; rw [hplain]; rfl) hk (evalArgs_plain (wpAny_mono h' (fun xs s₁ ⟨_, _, S', q⟩ => ⟨S'.top.kin, q s₁ S'⟩) fun _ _ x => x))
theorem G_callWith0 {p : Pos} {f : Value} {first : List Value} {Q : Value → Vals → List HP → Prop} (hk : Keeps w fm.K f) (h : G w A fm (call f (first ++ [])) Q E vs cs) : G w A fm (callWith p f first (backTo p (starEach [] fm.env)) []) Q E vs cs := fun s S =>
  callWith_of rfl hk (evalArgs_nil3 ⟨S.top.kin, h s S⟩)
theorem keeps_plain {K : Frag} {f : Value} (h : ∀ a, f ≠ .ref a) : Keeps w K f := fun hp _ => ⟨.machine, .inr (.inl rfl), by
  cases f <;> first | exact (h _ rfl).elim | exact Looks.of_pure rfl⟩
theorem keeps_top {K : Frag} {f : Value} (hk : keepIn K f = true) : Keeps w K f := fun h X => keeps_K hk h X
theorem G_CallN {x : Str} {np p : Pos} {args : List Expr} {Q : Value → Vals → List HP → Prop} (h : G w A fm (eval (.Name x np) fm.env) (CallWK w A fm p args Q E) E vs cs) :
    G w A fm (eval (.Call (.Name x np) args [] p) fm.env) Q E vs cs := fun s S => wpAny_Call_NameR (wpAny_mono (h s S) (fun f s₁ y => At.go y) fun _ _ x => x)
theorem G_Expr {e : Expr} {p : Pos} {Q : Flow → Vals → List HP → Prop} (h : G w A fm (eval e fm.env) (ExprK Q) E vs cs)
    (hs : notComp e = true) : G w A fm (exec (.Expr e p) fm.env) Q E vs cs := fun s S => by
  refine wpAny_Expr (wpAny_mono (h s S) (fun v s₁ x => ?_) fun _ _ x => x) (by unfold interactive; rw [S.fok.fk]; rfl) (swap_of hs)
  obtain ⟨_, _, S', q1, q2⟩ := x
  cases v <;> first | exact (q1 _ rfl).elim | exact ⟨_, _, S', q2⟩
theorem G_call {K : Frag} {f : Value} {args : List Value} {kw : List (Str × Value)} {Q : Value → Vals → List HP → Prop} (h : ∀ s, Sit fm vs cs s → codeAny (MD w) A (.call f ⟨args, kw⟩) (fun r s' => ∃ v vs' cs', r = .ok (.ret v) ∧ Sit fm vs' cs' s' ∧ Q v vs' cs') s) : G w A fm (call f args kw) Q E vs cs := fun s S =>
  wpAny_call (codeAny_mono (h s S) (fun r s' ⟨v, vs', cs', e, S', q⟩ => by subst e; exact ⟨vs', cs', S', q⟩))
end
end
end
section
open PySem PySem.W PyProof.Rows PySem.Calls
section
noncomputable abbrev fnObj (fd : FuncData) : Obj := ⟨.type "function", none, .func fd, #[]⟩
noncomputable def okName (K : Frag) (fd : FuncData) (p : Str × Value) : Bool := fd.scope.names.lookup p.1 == some .globalImplicit && p.1 != ("__debug__" : Str) && (match nsIn K mainGlobals p.1 with
  | some (some v) => decide (v = p.2)
  | some none => bootBuiltins p.1 == some p.2 && p.1 != ("__name__" : Str)
  | none => false)
/-- what is read off the written top of a def, once -/
noncomputable def fnCheck (K : Frag) (fd : FuncData) (ns : List Str) (gs : List (Str × Value)) : Bool :=
  codeIn K fd.code fd.qualname && !fd.scope.isCoroutine && !fd.scope.isGenerator && fd.scope.kind == .function && fd.globals == mainGlobals && fd.builtins == builtinsNs
    && decide ns.Nodup && (ns.all fun x => fd.scope.names.lookup x == some .local && x != ("__debug__" : Str)) && gs.all (okName K fd)
structure FnOk (K : Frag) (f : Addr) (fd : FuncData) (ns : List Str) (gs : List (Str × Value)) : Prop where
  look : K.lookup f = some (fnObj fd)
  code : codeIn K fd.code fd.qualname = true
  co : fd.scope.isCoroutine = false
  gen : fd.scope.isGenerator = false
  kind : fd.scope.kind = .function
  glob : fd.globals = mainGlobals
  bui : fd.builtins = builtinsNs
  nd : ns.Nodup
  loc : ∀ x ∈ ns, fd.scope.names.lookup x = some .local
  dbg : ∀ x ∈ ns, (x == ("__debug__" : Str)) = false
  gok : ∀ p ∈ gs, ∀ L, GlOk K (callEnv fd L f) p
theorem fnOk_of {K : Frag} {f : Addr} {fd : FuncData} {ns : List Str} {gs : List (Str × Value)} (h : K.lookup f = some (fnObj fd)) (e : fnCheck K fd ns gs = true) : FnOk K f fd ns gs := by
  unfold fnCheck at e
  simp only [Bool.and_eq_true, Bool.not_eq_true', beq_iff_eq, decide_eq_true_eq, List.all_eq_true, bne_iff_ne, ne_eq] at e
  obtain ⟨⟨⟨⟨⟨⟨⟨⟨e1, e2⟩, e3⟩, e4⟩, e5⟩, e6⟩, e7⟩, e8⟩, e9⟩ := e
  refine ⟨h, e1, e2, e3, e4, e5, e6, e7, fun x hx => (e8 x hx).1, fun x hx => beq_eq_false_iff_ne.mpr (e8 x hx).2, fun p hp L => ?_⟩
  have z := e9 p hp
  unfold okName at z
  simp only [Bool.and_eq_true, beq_iff_eq, bne_iff_ne, ne_eq] at z
  obtain ⟨⟨z1, z2⟩, z3⟩ := z
  refine ⟨z1, beq_eq_false_iff_ne.mpr z2, ?_⟩
  split at z3
  · rename_i v hv; exact .inl (by rw [hv]; rw [of_decide_eq_true z3])
  · rename_i hv
    simp only [Bool.and_eq_true, beq_iff_eq, bne_iff_ne, ne_eq] at z3
    exact .inr ⟨hv, z3.1, z3.2⟩
  · cases z3
/-- what a call does: for any state that holds the parts cs₀ and the facts B -/
noncomputable def SpecP (gp : GP) (w : World) (K : Frag) (k : Nat) (f : Value) (args : Args) (B : Heap → Prop) (cs₀ : List HP) (Post : Value → List HP → Prop) : Prop :=
  ∀ A s, Rm A k → TP K s.heap → FrH K (frOf A) s.heap → gp s.gens s.drawn → B s.heap → Own K (frOf A) cs₀ s.heap → codeAny (MD w) A (.call f args) (fun r s' => ∃ v cs₁, r = .ok (.ret v) ∧ Stp gp (feet cs₀) (frOf A) cs₁ s s' ∧ Post v cs₁) s
/-- whatever is known of generators and draws -/
noncomputable def Spec (w : World) (K : Frag) (k : Nat) (f : Value) (args : Args) (B : Heap → Prop) (cs₀ : List HP) (Post : Value → List HP → Prop) : Prop := ∀ gp, SpecP gp w K k f args B cs₀ Post
/-- at the end of a body: the parts that are handed on -/
noncomputable abbrev retV : Flow → Value
  | .ret v => v
  | _ => .none
inductive Out (Post : Value → List HP → Prop) (fl : Flow) (vs : Vals) (cs : List HP) : Prop | mk (cs₁ junk : List HP) (p : (cs₁ ++ junk).Perm cs) (h : Post (retV fl) cs₁) : Out Post fl vs cs
theorem Out.ret {Post : Value → List HP → Prop} {v : Value} {vs : Vals} {cs cs₁ junk : List HP} (p : (cs₁ ++ junk).Perm cs) (h : Post v cs₁) : Out Post (.ret v) vs cs := ⟨cs₁, junk, p, h⟩
theorem Out.all {Post : Value → List HP → Prop} {v : Value} {vs : Vals} {cs₁ : List HP} (h : Post v cs₁) : Out Post (.ret v) vs cs₁ := ⟨cs₁, [], by rw [List.append_nil], h⟩
theorem Out.front {Post : Value → List HP → Prop} {v : Value} {vs : Vals} {cs₁ junk : List HP} (h : Post v cs₁) : Out Post (.ret v) vs (cs₁ ++ junk) := ⟨cs₁, junk, .refl _, h⟩
theorem Out.nil {Post : Value → List HP → Prop} {v : Value} {vs : Vals} {junk : List HP} (h : Post v []) : Out Post (.ret v) vs junk := ⟨[], junk, .refl _, h⟩
theorem frOf_deeper {A : Around} {env : Env} {L a : Addr} (hf : env.frame = some L) (ha : a ∈ frOf (A.deeper env)) (hn : a ≠ L) : a ∈ frOf A := by
  unfold frOf at ha ⊢
  have e : (A.deeper env).frames = A.frames.map (env :: ·) := rfl
  rw [e] at ha
  cases h : A.frames with
  | none => rw [h] at ha; exact ha
  | some l =>
    rw [h] at ha
    have ha : a ∈ (env :: l).filterMap (·.frame) := ha
    rw [List.filterMap_cons, hf] at ha
    rcases List.mem_cons.mp ha with q | q
    · exact absurd q hn
    · exact q
theorem own_fr {K : Frag} {fr : List Addr} {cs : List HP} {h : Heap} (O : Own K fr cs h) {a : Addr} (ha : a ∈ fr) : a ∉ feet cs := fun q => by
  obtain ⟨c, hc, hx⟩ := mem_feet.mp q
  exact ((O.own c hc).2 a hx).2 ha
theorem frs_new {K : Frag} {fr fr' : List Addr} {L : Addr} {h h' : Heap} (hH : FrH K fr h) (hk : ∀ b o, h.get? b = some o → h'.get? b = some o) (hs : ∀ a ∈ fr', a ≠ L → a ∈ fr) : ∀ a ∈ fr', a ≠ L → ∃ o es ep sl, h.get? a = some o ∧ o.data = .dict es ep ∧ h'.get? a = some { o with slots := sl } := fun a ha hn => by
  obtain ⟨_, o, es, ep, h1, h2⟩ := hH a (hs a ha hn)
  exact ⟨o, es, ep, o.slots, h1, h2, hk a o h1⟩
section
variable {w : World} {K : Frag} {k : Nat} {f : Addr} {fd : FuncData} {ns : List Str} {gs : List (Str × Value)} {args : Args} {B : Heap → Prop} {cs₀ : List HP} {Post : Value → List HP → Prop} {body : List Stmt} {binds : List (Str × Value)} {vs₀ : Vals}
theorem SpecP.of_body {gp : GP} (ok : FnOk K f fd ns gs) (hcell : ∀ x ∈ fd.scope.names, x.2 ≠ .cell) (hb : fd.body = .stmts body) (hbind : ∀ s, TP K s.heap → B s.heap → BindsTo s fd args binds) (hloc : ∀ x ∈ binds, fd.scope.names.lookup x.1 = some .local)
    (hv : Agree ns vs₀ (fun x => binds.reverse.lookup x))
    (h : ∀ A b, Rm A k → TP K b.heap → B b.heap → G w A ⟨K, feet cs₀, b, callEnv fd b.heap.objs.size f, ns, gs, gp, frOf A⟩ (execs body (callEnv fd b.heap.objs.size f)) (Out Post) (fun _ _ _ => False) vs₀ cs₀) :
    SpecP gp w K (k + 1) (.ref f) args B cs₀ Post := by
  intro A s hA T hH hG hB O
  refine codeAny_call_def (fd := fd) (body := body) (binds := binds) (by have := hA.depth; omega) (T.kin _ _ ok.look) rfl T.lim (codeRec_of T.kin ok.code) hb (hbind s T hB) hcell hloc (fun h₀ hns hk => ?_) ok.co ok.gen ok.kind
  have S : Sit ⟨K, feet cs₀, s, callEnv fd s.heap.objs.size f, ns, gs, gp, frOf (A.deeper (callEnv fd s.heap.objs.size f))⟩ vs₀ cs₀ { s with heap := h₀, toks := s.toks + binds.length } := by
    refine ⟨⟨fun p hp => ok.gok p hp _, ⟨ok.glob, ok.bui⟩, T, fun a ha => ?_, ok.nd, fun x hx => ok.loc x hx, ok.dbg, ok.kind, Nat.le_refl _, fun a ha hn => ⟨(hH a (frOf_deeper rfl ha hn)).1, own_fr O (frOf_deeper rfl ha hn)⟩⟩, hG, rfl, fun a o e _ _ => hk a o e, frs_new hH hk fun a ha hn => frOf_deeper rfl ha hn, ⟨_, hns, hv⟩, fun c hc => ⟨?_, fun a ha => .inl (mem_feet.mpr ⟨c, hc, ha⟩), fun z => ?_⟩, O.apart⟩
    · obtain ⟨c, hc, ha⟩ := mem_feet.mp ha
      exact ((O.own c hc).2 a ha).1
    · refine c.loc (fun a ha => ?_) (O.own c hc).1
      obtain ⟨o, ho⟩ := c.lt (O.own c hc).1 a ha
      rw [ho]; exact hk _ _ ho
    · obtain ⟨o, ho⟩ := c.lt (O.own c hc).1 _ z
      exact absurd (Heap.lt_size ho) (Nat.lt_irrefl _)
  refine wpAny_mono (h (A.deeper (callEnv fd s.heap.objs.size f)) s hA.deeper T hB _ S) (fun fl s' x => ?_) fun e s' x => ?_
  · obtain ⟨vs', cs', S', cs₁, junk, p, q⟩ := x
    exact ⟨_, cs₁, rfl, (S'.perm p).leave fun a ha hn => frOf_deeper rfl ha hn, q⟩
  · obtain ⟨_, _, _, z⟩ := x
    exact z.elim
theorem Spec.of_body (ok : FnOk K f fd ns gs) (hcell : ∀ x ∈ fd.scope.names, x.2 ≠ .cell) (hb : fd.body = .stmts body) (hbind : ∀ s, TP K s.heap → B s.heap → BindsTo s fd args binds) (hloc : ∀ x ∈ binds, fd.scope.names.lookup x.1 = some .local)
    (hv : Agree ns vs₀ (fun x => binds.reverse.lookup x))
    (h : ∀ gp A b, Rm A k → TP K b.heap → B b.heap → G w A ⟨K, feet cs₀, b, callEnv fd b.heap.objs.size f, ns, gs, gp, frOf A⟩ (execs body (callEnv fd b.heap.objs.size f)) (Out Post) (fun _ _ _ => False) vs₀ cs₀) :
    Spec w K (k + 1) (.ref f) args B cs₀ Post := fun gp => SpecP.of_body ok hcell hb hbind hloc hv (h gp)
/-- a call by its contract -/
theorem G_specP {A : Around} {fm : Fm} {vs : Vals} {rest : List HP} {E : Value → Vals → List HP → Prop} {Q : Value → Vals → List HP → Prop} {f : Value} {args : List Value} {kw : List (Str × Value)} (hs : SpecP fm.gp w fm.K k f ⟨args, kw⟩ B cs₀ Post) (hA : Rm A k)
    (hB : ∀ s, Sit fm vs (cs₀ ++ rest) s → B s.heap) (h : ∀ v cs₁, Post v cs₁ → Q v vs (cs₁ ++ rest)) (hf : fm.fr = frOf A := by rfl) : G w A fm (call f args kw) Q E vs (cs₀ ++ rest) := fun s S =>
  wpAny_call (codeAny_mono (hs A s hA S.top (hf ▸ S.frH) S.gens (hB s S) (hf ▸ S.owned)) fun r s' ⟨v, cs₁, e, T, p⟩ => by subst e; exact ⟨vs, cs₁ ++ rest, S.call (hf ▸ T), h v cs₁ p⟩)
theorem G_spec {A : Around} {fm : Fm} {vs : Vals} {rest : List HP} {E : Value → Vals → List HP → Prop} {Q : Value → Vals → List HP → Prop} {f : Value} {args : List Value} {kw : List (Str × Value)} (hs : Spec w fm.K k f ⟨args, kw⟩ B cs₀ Post) (hA : Rm A k)
    (hB : ∀ s, Sit fm vs (cs₀ ++ rest) s → B s.heap) (h : ∀ v cs₁, Post v cs₁ → Q v vs (cs₁ ++ rest)) (hf : fm.fr = frOf A := by rfl) : G w A fm (call f args kw) Q E vs (cs₀ ++ rest) := G_specP (hs _) hA hB h hf
end
/-- the text of the program -/
noncomputable def topStmt (i : Nat) : Stmt := (PySem.Challenge.pw_ny0433_01.main.body)[i]?.getD (.Pass default)
noncomputable def defParts : Stmt → Arguments × List Stmt × Scope
  | .FunctionDef _ a b _ _ _ sc _ _ _ => (a, b, sc)
  | _ => default
noncomputable def clsPart (i j : Nat) : Stmt := match topStmt i with
  | .ClassDef _ _ _ b _ _ _ _ _ _ _ => b[j]?.getD (.Pass default)
  | s => s
noncomputable def mkFd (name qual : Str) (d : Arguments × List Stmt × Scope) (dV : Value) (modn : Str) (modt : Tok) (cd : Addr) : FuncData :=
  { name, qualname := qual, params := d.1, body := .stmts d.2.1, scope := d.2.2, globals := mainGlobals, closure := [], defaults := dV, kwdefaults := .none, doc := .none, pyModule := .str modn modt, annotations := none, code := .ref cd, closureTuple := .none, builtins := builtinsNs }
end
end
section
open PySem PySem.W PyProof.Rows PySem.Calls
section
noncomputable def d_dec : Arguments × List Stmt × Scope := defParts (topStmt 5)
noncomputable def fd_dec : FuncData := mkFd "decode_rfc2231" "decode_rfc2231" d_dec (Value.none) "cpy313.email.utils" 331 50
noncomputable def d_niInit : Arguments × List Stmt × Scope := defParts (clsPart 9 1)
noncomputable def fd_niInit : FuncData := mkFd "__init__" "_NodeInfo.__init__" d_niInit (Value.none) "cpy313.graphlib" 343 65
noncomputable def d_tsInit : Arguments × List Stmt × Scope := defParts (clsPart 11 0)
noncomputable def fd_tsInit : FuncData := mkFd "__init__" "TopologicalSorter.__init__" d_tsInit (Value.ref 96) "cpy313.graphlib" 343 102
noncomputable def d_getNi : Arguments × List Stmt × Scope := defParts (clsPart 11 1)
noncomputable def fd_getNi : FuncData := mkFd "_get_nodeinfo" "TopologicalSorter._get_nodeinfo" d_getNi (Value.none) "cpy313.graphlib" 343 109
noncomputable def d_add : Arguments × List Stmt × Scope := defParts (clsPart 11 2)
noncomputable def fd_add : FuncData := mkFd "add" "TopologicalSorter.add" d_add (Value.none) "cpy313.graphlib" 343 116
noncomputable def d_prepare : Arguments × List Stmt × Scope := defParts (clsPart 11 3)
noncomputable def fd_prepare : FuncData := mkFd "prepare" "TopologicalSorter.prepare" d_prepare (Value.none) "cpy313.graphlib" 343 121
noncomputable def d_getReady : Arguments × List Stmt × Scope := defParts (clsPart 11 4)
noncomputable def fd_getReady : FuncData := mkFd "get_ready" "TopologicalSorter.get_ready" d_getReady (Value.none) "cpy313.graphlib" 343 128
noncomputable def d_isActive : Arguments × List Stmt × Scope := defParts (clsPart 11 5)
noncomputable def fd_isActive : FuncData := mkFd "is_active" "TopologicalSorter.is_active" d_isActive (Value.none) "cpy313.graphlib" 343 135
noncomputable def d_tsBool : Arguments × List Stmt × Scope := defParts (clsPart 11 6)
noncomputable def fd_tsBool : FuncData := mkFd "__bool__" "TopologicalSorter.__bool__" d_tsBool (Value.none) "cpy313.graphlib" 343 142
noncomputable def d_done : Arguments × List Stmt × Scope := defParts (clsPart 11 7)
noncomputable def fd_done : FuncData := mkFd "done" "TopologicalSorter.done" d_done (Value.none) "cpy313.graphlib" 343 149
noncomputable def d_findCycle : Arguments × List Stmt × Scope := defParts (clsPart 11 8)
noncomputable def fd_findCycle : FuncData := mkFd "_find_cycle" "TopologicalSorter._find_cycle" d_findCycle (Value.none) "cpy313.graphlib" 343 156
noncomputable def d_index : Arguments × List Stmt × Scope := defParts (topStmt 15)
noncomputable def fd_index : FuncData := mkFd "_index" "_index" d_index (Value.none) "io" 565 189
noncomputable def d_ioNew : Arguments × List Stmt × Scope := defParts (clsPart 17 1)
noncomputable def fd_ioNew : FuncData := mkFd "__new__" "IOBase.__new__" d_ioNew (Value.none) "io" 565 216
noncomputable def d_sioInit : Arguments × List Stmt × Scope := defParts (clsPart 21 1)
noncomputable def fd_sioInit : FuncData := mkFd "__init__" "StringIO.__init__" d_sioInit (Value.ref 487) "io" 565 493
noncomputable def d_sioTrans : Arguments × List Stmt × Scope := defParts (clsPart 21 2)
noncomputable def fd_sioTrans : FuncData := mkFd "__translated" "StringIO.__translated" d_sioTrans (Value.none) "io" 565 500
noncomputable def d_sioCheck : Arguments × List Stmt × Scope := defParts (clsPart 21 3)
noncomputable def fd_sioCheck : FuncData := mkFd "__check" "StringIO.__check" d_sioCheck (Value.none) "io" 565 507
noncomputable def d_sioRead : Arguments × List Stmt × Scope := defParts (clsPart 21 25)
noncomputable def fd_sioRead : FuncData := mkFd "read" "StringIO.read" d_sioRead (Value.ref 663) "io" 565 669
noncomputable def d_shInit : Arguments × List Stmt × Scope := defParts (clsPart 31 0)
noncomputable def fd_shInit : FuncData := mkFd "__init__" "shlex.__init__" d_shInit (Value.ref 776) "cpy313.shlex" 1281 782
noncomputable def d_shPunct : Arguments × List Stmt × Scope := defParts (clsPart 31 1)
noncomputable def fd_shPunct : FuncData := mkFd "punctuation_chars" "shlex.punctuation_chars" d_shPunct (Value.none) "cpy313.shlex" 1281 789
noncomputable def d_getToken : Arguments × List Stmt × Scope := defParts (clsPart 31 5)
noncomputable def fd_getToken : FuncData := mkFd "get_token" "shlex.get_token" d_getToken (Value.none) "cpy313.shlex" 1281 819
noncomputable def d_readToken : Arguments × List Stmt × Scope := defParts (clsPart 31 6)
noncomputable def fd_readToken : FuncData := mkFd "read_token" "shlex.read_token" d_readToken (Value.none) "cpy313.shlex" 1281 826
noncomputable def d_shIter : Arguments × List Stmt × Scope := defParts (clsPart 31 9)
noncomputable def fd_shIter : FuncData := mkFd "__iter__" "shlex.__iter__" d_shIter (Value.none) "cpy313.shlex" 1281 848
noncomputable def d_shNext : Arguments × List Stmt × Scope := defParts (clsPart 31 10)
noncomputable def fd_shNext : FuncData := mkFd "__next__" "shlex.__next__" d_shNext (Value.none) "cpy313.shlex" 1281 855
noncomputable def d_split : Arguments × List Stmt × Scope := defParts (topStmt 32)
noncomputable def fd_split : FuncData := mkFd "split" "split" d_split (Value.ref 864) "cpy313.shlex" 1281 870
noncomputable def d_joinS : Arguments × List Stmt × Scope := defParts (topStmt 33)
noncomputable def fd_joinS : FuncData := mkFd "join" "join" d_joinS (Value.none) "cpy313.shlex" 1281 877
noncomputable def d_quote : Arguments × List Stmt × Scope := defParts (topStmt 36)
noncomputable def fd_quote : FuncData := mkFd "quote" "quote" d_quote (Value.none) "cpy313.shlex" 1281 885
noncomputable def d_rows : Arguments × List Stmt × Scope := defParts (topStmt 38)
noncomputable def fd_rows : FuncData := mkFd "_law_rows" "_law_rows" d_rows (Value.none) "law_ny0433_01" 1449 890
noncomputable def d_line : Arguments × List Stmt × Scope := defParts (topStmt 39)
noncomputable def fd_line : FuncData := mkFd "_law_line" "_law_line" d_line (Value.none) "law_ny0433_01" 1449 897
noncomputable def d_read : Arguments × List Stmt × Scope := defParts (topStmt 40)
noncomputable def fd_read : FuncData := mkFd "_law_read" "_law_read" d_read (Value.none) "law_ny0433_01" 1449 904
noncomputable def d_due : Arguments × List Stmt × Scope := defParts (topStmt 41)
noncomputable def fd_due : FuncData := mkFd "_law_due" "_law_due" d_due (Value.none) "law_ny0433_01" 1449 909
noncomputable def d_gone : Arguments × List Stmt × Scope := defParts (topStmt 42)
noncomputable def fd_gone : FuncData := mkFd "_law_gone_through" "_law_gone_through" d_gone (Value.none) "law_ny0433_01" 1449 916
noncomputable def d_chains : Arguments × List Stmt × Scope := defParts (topStmt 43)
noncomputable def fd_chains : FuncData := mkFd "_law_chains" "_law_chains" d_chains (Value.none) "law_ny0433_01" 1449 921
noncomputable def d_law : Arguments × List Stmt × Scope := defParts (topStmt 44)
noncomputable def fd_law : FuncData := mkFd "law" "law" d_law (Value.none) "law_ny0433_01" 1449 926
noncomputable def ob2 (P : Params) : Obj := { cls := Value.none, data := Data.dict #[{ hash := PyData.keyHash P ("\x69mport.loaded._sre"), key := Value.str ("\x69mport.loaded._sre") 183, val := Value.bool Bool.true }, { hash := PyData.keyHash P ("class._frozen_importlib.BuiltinImporter"), key := Value.str ("class._frozen_importlib.BuiltinImporter") 185, val := Value.ref 14 }, { hash := PyData.keyHash P ("watched.\x69mport"), key := Value.str ("watched.\x69mport") 206, val := Value.ref 18 }, { hash := PyData.keyHash P ("class._frozen_importlib.ModuleSpec"), key := Value.str ("class._frozen_importlib.ModuleSpec") 216, val := Value.ref 22 }, { hash := PyData.keyHash P ("sys.modules.booked-epoch"), key := Value.str ("sys.modules.booked-epoch") 245, val := Value.int 4 0 }, { hash := PyData.keyHash P ("\x69mport.later-laid._sre"), key := Value.str ("\x69mport.later-laid._sre") 270, val := Value.bool Bool.true }, { hash := PyData.keyHash P ("watched.library"), key := Value.str ("watched.library") 272, val := Value.ref 27 }, { hash := PyData.keyHash P ("watched.library-objects"), key := Value.str ("watched.library-objects") 0, val := Value.str ("\x0c\x1e") 0 }, { hash := PyData.keyHash P ("watched.library-deep._sre"), key := Value.str ("watched.library-deep._sre") 273, val := Value.str ("\x04\x00\x00\x0b\x04\x00\x00\x0b\x04\x00\x00\x03\x04\x00\x00\x0b\x08\x04dict\x02") 0 }, { hash := PyData.keyHash P ("\x69mport.loaded._collections"), key := Value.str ("\x69mport.loaded._collections") 280, val := Value.bool Bool.true }, { hash := PyData.keyHash P ("sys.modules.landed._collections"), key := Value.str ("sys.modules.landed._collections") 294, val := Value.bool Bool.true }, { hash := PyData.keyHash P ("\x69mport.later-laid._collections"), key := Value.str ("\x69mport.later-laid._collections") 309, val := Value.bool Bool.true }, { hash := PyData.keyHash P ("watched.library-deep._collections"), key := Value.str ("watched.library-deep._collections") 311, val := Value.str ("\x04\x00\x00\x1d\x04\x00\x00\x1d\x04\x00\x00\x03\x04\x00\x00\x1d\x08\x04dict\x02") 0 }, { hash := PyData.keyHash P ("type.__subclasses__.OSError.0"), key := Value.str ("type.__subclasses__.OSError.0") 601, val := Value.int 200 0 }, { hash := PyData.keyHash P ("type.__subclasses__.OSError.n"), key := Value.str ("type.__subclasses__.OSError.n") 602, val := Value.int 1 0 }] 15 }
noncomputable def ob3 (P : Params) : Obj := { cls := Value.type "dict", data := Data.dict #[{ hash := PyData.keyHash P ("__name__"), key := Value.str ("__name__") 165, val := Value.str ("law_ny0433_01") 1449 }, { hash := PyData.keyHash P ("__doc__"), key := Value.str ("__doc__") 166, val := Value.none }, { hash := PyData.keyHash P ("__package__"), key := Value.str ("__package__") 167, val := Value.none }, { hash := PyData.keyHash P ("__loader__"), key := Value.str ("__loader__") 168, val := Value.builtin "__main__.__loader__#opaque" }, { hash := PyData.keyHash P ("__spec__"), key := Value.str ("__spec__") 169, val := Value.none }, { hash := PyData.keyHash P ("__annotations__"), key := Value.str ("__annotations__") 170, val := Value.ref 6 }, { hash := PyData.keyHash P ("__builtins__"), key := Value.str ("__builtins__") 171, val := Value.ref 4 }, { hash := PyData.keyHash P ("__file__"), key := Value.str ("__file__") 173, val := Value.str ("/claim/cut.py") 172 }, { hash := PyData.keyHash P ("__cached__"), key := Value.str ("__cached__") 174, val := Value.none }, { hash := PyData.keyHash P ("_sre"), key := Value.str ("_sre") 275, val := Value.ref 12 }, { hash := PyData.keyHash P ("deque"), key := Value.str ("deque") 317, val := Value.type "collections.deque" }, { hash := PyData.keyHash P ("_wall"), key := Value.str ("_wall") 330, val := Value.ref 44 }, { hash := PyData.keyHash P ("TICK"), key := Value.str ("TICK") 334, val := Value.str ("'") 333 }, { hash := PyData.keyHash P ("decode_rfc2231"), key := Value.str ("decode_rfc2231") 342, val := Value.ref 51 }, { hash := PyData.keyHash P ("_NODE_OUT"), key := Value.str ("_NODE_OUT") 347, val := Value.int (-1) 346 }, { hash := PyData.keyHash P ("_NODE_DONE"), key := Value.str ("_NODE_DONE") 350, val := Value.int (-2) 349 }, { hash := PyData.keyHash P ("_NodeInfo"), key := Value.str ("_NodeInfo") 387, val := Value.ref 70 }, { hash := PyData.keyHash P ("CycleError"), key := Value.str ("CycleError") 405, val := Value.ref 85 }, { hash := PyData.keyHash P ("TopologicalSorter"), key := Value.str ("TopologicalSorter") 524, val := Value.ref 167 }, { hash := PyData.keyHash P ("_twin_re_1"), key := Value.str ("_twin_re_1") 564, val := Value.ref 176 }, { hash := PyData.keyHash P ("_whence"), key := Value.str ("_whence") 574, val := Value.ref 183 }, { hash := PyData.keyHash P ("_index"), key := Value.str ("_index") 582, val := Value.ref 190 }, { hash := PyData.keyHash P ("UnsupportedOperation"), key := Value.str ("UnsupportedOperation") 604, val := Value.ref 200 }, { hash := PyData.keyHash P ("IOBase"), key := Value.str ("IOBase") 636, val := Value.ref 220 }, { hash := PyData.keyHash P ("BufferedIOBase"), key := Value.str ("BufferedIOBase") 654, val := Value.ref 235 }, { hash := PyData.keyHash P ("TextIOBase"), key := Value.str ("TextIOBase") 672, val := Value.ref 247 }, { hash := PyData.keyHash P ("BytesIO"), key := Value.str ("BytesIO") 934, val := Value.ref 477 }, { hash := PyData.keyHash P ("StringIO"), key := Value.str ("StringIO") 1221, val := Value.ref 724 }, { hash := PyData.keyHash P ("_kind"), key := Value.str ("_kind") 1232, val := Value.ref 733 }, { hash := PyData.keyHash P ("_fspath"), key := Value.str ("_fspath") 1241, val := Value.ref 740 }, { hash := PyData.keyHash P ("_check_arg_types"), key := Value.str ("_check_arg_types") 1251, val := Value.ref 747 }, { hash := PyData.keyHash P ("isabs"), key := Value.str ("isabs") 1258, val := Value.ref 754 }, { hash := PyData.keyHash P ("join"), key := Value.str ("join") 1269, val := Value.ref 878 }, { hash := PyData.keyHash P ("join_path"), key := Value.str ("join_path") 1270, val := Value.ref 761 }, { hash := PyData.keyHash P ("dirname"), key := Value.str ("dirname") 1280, val := Value.ref 768 }, { hash := PyData.keyHash P ("shlex"), key := Value.str ("shlex") 1421, val := Value.ref 859 }, { hash := PyData.keyHash P ("split"), key := Value.str ("split") 1431, val := Value.ref 871 }, { hash := PyData.keyHash P ("join_shlex"), key := Value.str ("join_shlex") 1439, val := Value.ref 878 }, { hash := PyData.keyHash P ("_find_unsafe"), key := Value.str ("_find_unsafe") 1441, val := Value.ref 879 }, { hash := PyData.keyHash P ("quote"), key := Value.str ("quote") 1448, val := Value.ref 886 }, { hash := PyData.keyHash P ("_law_rows"), key := Value.str ("_law_rows") 1456, val := Value.ref 891 }, { hash := PyData.keyHash P ("_law_line"), key := Value.str ("_law_line") 1465, val := Value.ref 898 }, { hash := PyData.keyHash P ("_law_read"), key := Value.str ("_law_read") 1474, val := Value.ref 905 }, { hash := PyData.keyHash P ("_law_due"), key := Value.str ("_law_due") 1480, val := Value.ref 910 }, { hash := PyData.keyHash P ("_law_gone_through"), key := Value.str ("_law_gone_through") 1491, val := Value.ref 917 }, { hash := PyData.keyHash P ("_law_chains"), key := Value.str ("_law_chains") 1497, val := Value.ref 922 }, { hash := PyData.keyHash P ("law"), key := Value.str ("law") 1503, val := Value.ref 927 }] 47 }
noncomputable def ob4 (P : Params) : Obj := { cls := Value.type "module", dict := some 0 }
noncomputable def ob50 (P : Params) : Obj := { cls := Value.type "code", data := Data.fields #[Value.str ("decode_rfc2231") 335, Value.str ("decode_rfc2231") 336, Value.str ("/claim/cut.py") 337, Value.int 8 0, Value.int 1 0, Value.int 0 0, Value.int 0 0, Value.int 3 0, Value.ref 45, Value.bool Bool.true, Value.int 318 0, Value.ref 46, Value.none, Value.ref 47, Value.ref 48, Value.ref 49, Value.int 340 0, Value.int 8 0, Value.str ("/claim/cut.py") 341] }
noncomputable def ob51 (P : Params) : Obj := fnObj fd_dec
noncomputable def ob65 (P : Params) : Obj := { cls := Value.type "code", data := Data.fields #[Value.str ("__init__") 367, Value.str ("_NodeInfo.__init__") 368, Value.str ("/claim/cut.py") 369, Value.int 19 0, Value.int 2 0, Value.int 0 0, Value.int 0 0, Value.int 3 0, Value.ref 60, Value.bool Bool.true, Value.int 318 0, Value.ref 61, Value.none, Value.ref 62, Value.ref 63, Value.ref 64, Value.int 372 0, Value.int 19 0, Value.str ("/claim/cut.py") 373] }
noncomputable def ob66 (P : Params) : Obj := fnObj fd_niInit
noncomputable def ob69 (P : Params) : Obj := { cls := Value.type "dict", data := Data.dict #[{ hash := PyData.keyHash P ("__module__"), key := Value.str ("__module__") 358, val := Value.str ("cpy313.graphlib") 343 }, { hash := PyData.keyHash P ("__firstlineno__"), key := Value.str ("__firstlineno__") 362, val := Value.int 16 361 }, { hash := PyData.keyHash P ("__slots__"), key := Value.str ("__slots__") 366, val := Value.ref 59 }, { hash := PyData.keyHash P ("__init__"), key := Value.str ("__init__") 374, val := Value.ref 66 }, { hash := PyData.keyHash P ("__static_attributes__"), key := Value.str ("__static_attributes__") 378, val := Value.ref 67 }, { hash := PyData.keyHash P ("node"), key := Value.str ("node") 380, val := Value.ref 71 }, { hash := PyData.keyHash P ("npredecessors"), key := Value.str ("npredecessors") 382, val := Value.ref 72 }, { hash := PyData.keyHash P ("successors"), key := Value.str ("successors") 384, val := Value.ref 73 }, { hash := PyData.keyHash P ("__doc__"), key := Value.str ("__doc__") 385, val := Value.none }] 5 }
noncomputable def ob70 (P : Params) : Obj := { cls := Value.type "type", data := Data.cls { name := "_NodeInfo", bases := [Value.type "object"], mro := [Value.ref 70, Value.type "object"], ns := 69, qualname := "_NodeInfo", hasDict := Bool.false, slotNames := ["node", "npredecessors", "successors"] }, slots := #[Option.none, Option.none, Option.some (Value.str ("_NodeInfo") 351), Option.some (Value.str ("_NodeInfo") 359), Option.some (Value.builtin "object.__new__"), Option.some (Value.bool Bool.false)] }
noncomputable def ob71 (P : Params) : Obj := { cls := Value.type "member_descriptor", data := Data.fields #[Value.str ("node") 379, Value.ref 70, Value.builtin "proto.slot", Value.builtin "proto.slot#set", Value.int 2 0] }
noncomputable def ob72 (P : Params) : Obj := { cls := Value.type "member_descriptor", data := Data.fields #[Value.str ("npredecessors") 381, Value.ref 70, Value.builtin "proto.slot", Value.builtin "proto.slot#set", Value.int 1 0] }
noncomputable def ob73 (P : Params) : Obj := { cls := Value.type "member_descriptor", data := Data.fields #[Value.str ("successors") 383, Value.ref 70, Value.builtin "proto.slot", Value.builtin "proto.slot#set", Value.int 0 0] }
noncomputable def ob84 (P : Params) : Obj := { cls := Value.type "dict", data := Data.dict #[{ hash := PyData.keyHash P ("__module__"), key := Value.str ("__module__") 395, val := Value.str ("cpy313.graphlib") 343 }, { hash := PyData.keyHash P ("__firstlineno__"), key := Value.str ("__firstlineno__") 399, val := Value.int 23 398 }, { hash := PyData.keyHash P ("__static_attributes__"), key := Value.str ("__static_attributes__") 400, val := Value.ref 83 }, { hash := PyData.keyHash P ("__weakref__"), key := Value.str ("__weakref__") 402, val := Value.ref 86 }, { hash := PyData.keyHash P ("__doc__"), key := Value.str ("__doc__") 403, val := Value.none }] 3 }
noncomputable def ob85 (P : Params) : Obj := { cls := Value.type "type", data := Data.cls { name := "CycleError", bases := [Value.type "ValueError"], mro := [Value.ref 85, Value.type "ValueError", Value.type "Exception", Value.type "BaseException", Value.type "object"], ns := 84, qualname := "CycleError" }, slots := #[Option.some (Value.ref 76), Option.none, Option.some (Value.str ("CycleError") 388), Option.some (Value.str ("CycleError") 396), Option.some (Value.builtin "ValueError.__new__"), Option.some (Value.bool Bool.true)] }
noncomputable def ob86 (P : Params) : Obj := { cls := Value.type "getset_descriptor", data := Data.fields #[Value.str ("__weakref__") 401, Value.ref 85, Value.builtin "ExceptionGroup.__weakref__", Value.none] }
noncomputable def ob96 (P : Params) : Obj := { cls := Value.type "tuple", data := Data.seq #[Value.none] }
noncomputable def ob102 (P : Params) : Obj := { cls := Value.type "code", data := Data.fields #[Value.str ("__init__") 418, Value.str ("TopologicalSorter.__init__") 419, Value.str ("/claim/cut.py") 420, Value.int 27 0, Value.int 2 0, Value.int 0 0, Value.int 0 0, Value.int 3 0, Value.ref 97, Value.bool Bool.true, Value.int 318 0, Value.ref 98, Value.none, Value.ref 99, Value.ref 100, Value.ref 101, Value.int 425 0, Value.int 27 0, Value.str ("/claim/cut.py") 426] }
noncomputable def ob103 (P : Params) : Obj := fnObj fd_tsInit
noncomputable def ob109 (P : Params) : Obj := { cls := Value.type "code", data := Data.fields #[Value.str ("_get_nodeinfo") 428, Value.str ("TopologicalSorter._get_nodeinfo") 429, Value.str ("/claim/cut.py") 430, Value.int 36 0, Value.int 2 0, Value.int 0 0, Value.int 0 0, Value.int 3 0, Value.ref 104, Value.bool Bool.true, Value.int 318 0, Value.ref 105, Value.none, Value.ref 106, Value.ref 107, Value.ref 108, Value.int 434 0, Value.int 36 0, Value.str ("/claim/cut.py") 435] }
noncomputable def ob110 (P : Params) : Obj := fnObj fd_getNi
noncomputable def ob116 (P : Params) : Obj := { cls := Value.type "code", data := Data.fields #[Value.str ("add") 437, Value.str ("TopologicalSorter.add") 438, Value.str ("/claim/cut.py") 439, Value.int 41 0, Value.int 2 0, Value.int 0 0, Value.int 0 0, Value.int 7 0, Value.ref 111, Value.bool Bool.true, Value.int 318 0, Value.ref 112, Value.none, Value.ref 113, Value.ref 114, Value.ref 115, Value.int 446 0, Value.int 41 0, Value.str ("/claim/cut.py") 447] }
noncomputable def ob117 (P : Params) : Obj := fnObj fd_add
noncomputable def ob121 (P : Params) : Obj := { cls := Value.type "code", data := Data.fields #[Value.str ("prepare") 449, Value.str ("TopologicalSorter.prepare") 450, Value.str ("/claim/cut.py") 451, Value.int 50 0, Value.int 1 0, Value.int 0 0, Value.int 0 0, Value.int 3 0, Value.ref 118, Value.bool Bool.true, Value.int 318 0, Value.ref 119, Value.none, Value.none, Value.none, Value.ref 120, Value.int 452 0, Value.int 50 0, Value.str ("/claim/cut.py") 453] }
noncomputable def ob122 (P : Params) : Obj := fnObj fd_prepare
noncomputable def ob128 (P : Params) : Obj := { cls := Value.type "code", data := Data.fields #[Value.str ("get_ready") 455, Value.str ("TopologicalSorter.get_ready") 456, Value.str ("/claim/cut.py") 457, Value.int 58 0, Value.int 1 0, Value.int 0 0, Value.int 0 0, Value.int 3 0, Value.ref 123, Value.bool Bool.true, Value.int 318 0, Value.ref 124, Value.none, Value.ref 125, Value.ref 126, Value.ref 127, Value.int 462 0, Value.int 58 0, Value.str ("/claim/cut.py") 463] }
noncomputable def ob129 (P : Params) : Obj := fnObj fd_getReady
noncomputable def ob135 (P : Params) : Obj := { cls := Value.type "code", data := Data.fields #[Value.str ("is_active") 465, Value.str ("TopologicalSorter.is_active") 466, Value.str ("/claim/cut.py") 467, Value.int 69 0, Value.int 1 0, Value.int 0 0, Value.int 0 0, Value.int 3 0, Value.ref 130, Value.bool Bool.true, Value.int 318 0, Value.ref 131, Value.none, Value.ref 132, Value.ref 133, Value.ref 134, Value.int 469 0, Value.int 69 0, Value.str ("/claim/cut.py") 470] }
noncomputable def ob136 (P : Params) : Obj := fnObj fd_isActive
noncomputable def ob142 (P : Params) : Obj := { cls := Value.type "code", data := Data.fields #[Value.str ("__bool__") 472, Value.str ("TopologicalSorter.__bool__") 473, Value.str ("/claim/cut.py") 474, Value.int 74 0, Value.int 1 0, Value.int 0 0, Value.int 0 0, Value.int 3 0, Value.ref 137, Value.bool Bool.true, Value.int 318 0, Value.ref 138, Value.none, Value.ref 139, Value.ref 140, Value.ref 141, Value.int 476 0, Value.int 74 0, Value.str ("/claim/cut.py") 477] }
noncomputable def ob143 (P : Params) : Obj := fnObj fd_tsBool
noncomputable def ob149 (P : Params) : Obj := { cls := Value.type "code", data := Data.fields #[Value.str ("done") 479, Value.str ("TopologicalSorter.done") 480, Value.str ("/claim/cut.py") 481, Value.int 77 0, Value.int 1 0, Value.int 0 0, Value.int 0 0, Value.int 7 0, Value.ref 144, Value.bool Bool.true, Value.int 318 0, Value.ref 145, Value.none, Value.ref 146, Value.ref 147, Value.ref 148, Value.int 490 0, Value.int 77 0, Value.str ("/claim/cut.py") 491] }
noncomputable def ob150 (P : Params) : Obj := fnObj fd_done
noncomputable def ob156 (P : Params) : Obj := { cls := Value.type "code", data := Data.fields #[Value.str ("_find_cycle") 493, Value.str ("TopologicalSorter._find_cycle") 494, Value.str ("/claim/cut.py") 495, Value.int 100 0, Value.int 1 0, Value.int 0 0, Value.int 0 0, Value.int 3 0, Value.ref 151, Value.bool Bool.true, Value.int 318 0, Value.ref 152, Value.none, Value.ref 153, Value.ref 154, Value.ref 155, Value.int 503 0, Value.int 100 0, Value.str ("/claim/cut.py") 504] }
noncomputable def ob157 (P : Params) : Obj := fnObj fd_findCycle
noncomputable def ob166 (P : Params) : Obj := { cls := Value.type "dict", data := Data.dict #[{ hash := PyData.keyHash P ("__module__"), key := Value.str ("__module__") 413, val := Value.str ("cpy313.graphlib") 343 }, { hash := PyData.keyHash P ("__firstlineno__"), key := Value.str ("__firstlineno__") 417, val := Value.int 25 416 }, { hash := PyData.keyHash P ("__init__"), key := Value.str ("__init__") 427, val := Value.ref 103 }, { hash := PyData.keyHash P ("_get_nodeinfo"), key := Value.str ("_get_nodeinfo") 436, val := Value.ref 110 }, { hash := PyData.keyHash P ("add"), key := Value.str ("add") 448, val := Value.ref 117 }, { hash := PyData.keyHash P ("prepare"), key := Value.str ("prepare") 454, val := Value.ref 122 }, { hash := PyData.keyHash P ("get_ready"), key := Value.str ("get_ready") 464, val := Value.ref 129 }, { hash := PyData.keyHash P ("is_active"), key := Value.str ("is_active") 471, val := Value.ref 136 }, { hash := PyData.keyHash P ("__bool__"), key := Value.str ("__bool__") 478, val := Value.ref 143 }, { hash := PyData.keyHash P ("done"), key := Value.str ("done") 492, val := Value.ref 150 }, { hash := PyData.keyHash P ("_find_cycle"), key := Value.str ("_find_cycle") 505, val := Value.ref 157 }, { hash := PyData.keyHash P ("static_order"), key := Value.str ("static_order") 512, val := Value.ref 164 }, { hash := PyData.keyHash P ("__static_attributes__"), key := Value.str ("__static_attributes__") 517, val := Value.ref 165 }, { hash := PyData.keyHash P ("__dict__"), key := Value.str ("__dict__") 519, val := Value.ref 168 }, { hash := PyData.keyHash P ("__weakref__"), key := Value.str ("__weakref__") 521, val := Value.ref 169 }, { hash := PyData.keyHash P ("__doc__"), key := Value.str ("__doc__") 522, val := Value.none }] 4 }
noncomputable def ob167 (P : Params) : Obj := { cls := Value.type "type", data := Data.cls { name := "TopologicalSorter", bases := [Value.type "object"], mro := [Value.ref 167, Value.type "object"], ns := 166, qualname := "TopologicalSorter" }, slots := #[Option.none, Option.none, Option.some (Value.str ("TopologicalSorter") 406), Option.some (Value.str ("TopologicalSorter") 414), Option.some (Value.builtin "object.__new__"), Option.some (Value.bool Bool.true)] }
noncomputable def ob168 (P : Params) : Obj := { cls := Value.type "getset_descriptor", data := Data.fields #[Value.str ("__dict__") 518, Value.ref 167, Value.builtin "function.__dict__", Value.builtin "function.__dict__#set"] }
noncomputable def ob169 (P : Params) : Obj := { cls := Value.type "getset_descriptor", data := Data.fields #[Value.str ("__weakref__") 520, Value.ref 167, Value.builtin "ExceptionGroup.__weakref__", Value.none] }
noncomputable def ob175 (P : Params) : Obj := { cls := Value.type "tuple", data := Data.seq #[Value.int 14 0, Value.int 17 0, Value.int 4 0, Value.int 1 0, Value.int 1 0, Value.int 21 0, Value.int 9 0, Value.int 0 0, Value.int 604043296 0, Value.int 1 0, Value.int 0 0, Value.int 0 0, Value.int 0 0, Value.int 0 0, Value.int 0 0, Value.int 8 0, Value.int 4 0, Value.int 0 0, Value.int 13 0, Value.int 14 0, Value.int 21 0, Value.int 9 0, Value.int 0 0, Value.int 604043296 0, Value.int 1 0, Value.int 0 0, Value.int 0 0, Value.int 0 0, Value.int 0 0, Value.int 0 0, Value.int 8 0, Value.int 4 0, Value.int 0 0, Value.int 1 0] }
noncomputable def ob176 (P : Params) : Obj := { cls := Value.type "re.Pattern", data := Data.fields #[Value.str ("[^\\w@%+=:,./-]") 526, Value.int 256 563, Value.int 0 0, Value.none, Value.none, Value.ref 175, Value.int 0 0] }
noncomputable def ob189 (P : Params) : Obj := { cls := Value.type "code", data := Data.fields #[Value.str ("_index") 575, Value.str ("_index") 576, Value.str ("/claim/cut.py") 577, Value.int 138 0, Value.int 2 0, Value.int 0 0, Value.int 0 0, Value.int 3 0, Value.ref 184, Value.bool Bool.true, Value.int 318 0, Value.ref 185, Value.none, Value.ref 186, Value.ref 187, Value.ref 188, Value.int 580 0, Value.int 138 0, Value.str ("/claim/cut.py") 581] }
noncomputable def ob190 (P : Params) : Obj := fnObj fd_index
noncomputable def ob199 (P : Params) : Obj := { cls := Value.type "dict", data := Data.dict #[{ hash := PyData.keyHash P ("__module__"), key := Value.str ("__module__") 590, val := Value.str ("io") 595 }, { hash := PyData.keyHash P ("__firstlineno__"), key := Value.str ("__firstlineno__") 594, val := Value.int 145 593 }, { hash := PyData.keyHash P ("__static_attributes__"), key := Value.str ("__static_attributes__") 597, val := Value.ref 198 }, { hash := PyData.keyHash P ("__weakref__"), key := Value.str ("__weakref__") 599, val := Value.ref 201 }, { hash := PyData.keyHash P ("__doc__"), key := Value.str ("__doc__") 600, val := Value.none }] 3 }
noncomputable def ob200 (P : Params) : Obj := { cls := Value.type "type", data := Data.cls { name := "UnsupportedOperation", bases := [Value.type "OSError", Value.type "ValueError"], mro := [Value.ref 200, Value.type "OSError", Value.type "ValueError", Value.type "Exception", Value.type "BaseException", Value.type "object"], ns := 199, qualname := "UnsupportedOperation" }, slots := #[Option.some (Value.ref 191), Option.none, Option.some (Value.str ("UnsupportedOperation") 583), Option.some (Value.str ("UnsupportedOperation") 591), Option.some (Value.builtin "OSError.__new__"), Option.some (Value.bool Bool.true)] }
noncomputable def ob201 (P : Params) : Obj := { cls := Value.type "getset_descriptor", data := Data.fields #[Value.str ("__weakref__") 598, Value.ref 200, Value.builtin "ExceptionGroup.__weakref__", Value.none] }
noncomputable def ob216 (P : Params) : Obj := { cls := Value.type "code", data := Data.fields #[Value.str ("__new__") 619, Value.str ("IOBase.__new__") 620, Value.str ("/claim/cut.py") 621, Value.int 150 0, Value.int 1 0, Value.int 1 0, Value.int 0 0, Value.int 15 0, Value.ref 211, Value.bool Bool.true, Value.int 318 0, Value.ref 212, Value.none, Value.ref 213, Value.ref 214, Value.ref 215, Value.int 625 0, Value.int 150 0, Value.str ("/claim/cut.py") 626] }
noncomputable def ob217 (P : Params) : Obj := fnObj fd_ioNew
noncomputable def ob219 (P : Params) : Obj := { cls := Value.type "dict", data := Data.dict #[{ hash := PyData.keyHash P ("__module__"), key := Value.str ("__module__") 612, val := Value.str ("io") 617 }, { hash := PyData.keyHash P ("__firstlineno__"), key := Value.str ("__firstlineno__") 616, val := Value.int 147 615 }, { hash := PyData.keyHash P ("__new__"), key := Value.str ("__new__") 627, val := Value.ref 221 }, { hash := PyData.keyHash P ("__static_attributes__"), key := Value.str ("__static_attributes__") 628, val := Value.ref 218 }, { hash := PyData.keyHash P ("__dict__"), key := Value.str ("__dict__") 631, val := Value.ref 222 }, { hash := PyData.keyHash P ("__weakref__"), key := Value.str ("__weakref__") 633, val := Value.ref 223 }, { hash := PyData.keyHash P ("__doc__"), key := Value.str ("__doc__") 634, val := Value.none }] 4 }
noncomputable def ob220 (P : Params) : Obj := { cls := Value.type "type", data := Data.cls { name := "IOBase", bases := [Value.type "object"], mro := [Value.ref 220, Value.type "object"], ns := 219, qualname := "IOBase", subclasses := [Value.ref 235, Value.ref 247] }, slots := #[Option.none, Option.none, Option.some (Value.str ("IOBase") 605), Option.some (Value.str ("IOBase") 613), Option.some Value.none, Option.some (Value.bool Bool.true)] }
noncomputable def ob221 (P : Params) : Obj := { cls := Value.type "staticmethod", data := Data.fields #[Value.ref 217] }
noncomputable def ob222 (P : Params) : Obj := { cls := Value.type "getset_descriptor", data := Data.fields #[Value.str ("__dict__") 630, Value.ref 220, Value.builtin "function.__dict__", Value.builtin "function.__dict__#set"] }
noncomputable def ob223 (P : Params) : Obj := { cls := Value.type "getset_descriptor", data := Data.fields #[Value.str ("__weakref__") 632, Value.ref 220, Value.builtin "ExceptionGroup.__weakref__", Value.none] }
noncomputable def ob234 (P : Params) : Obj := { cls := Value.type "dict", data := Data.dict #[{ hash := PyData.keyHash P ("__module__"), key := Value.str ("__module__") 644, val := Value.str ("io") 649 }, { hash := PyData.keyHash P ("__firstlineno__"), key := Value.str ("__firstlineno__") 648, val := Value.int 154 647 }, { hash := PyData.keyHash P ("__static_attributes__"), key := Value.str ("__static_attributes__") 651, val := Value.ref 233 }, { hash := PyData.keyHash P ("__doc__"), key := Value.str ("__doc__") 652, val := Value.none }] 2 }
noncomputable def ob235 (P : Params) : Obj := { cls := Value.type "type", data := Data.cls { name := "BufferedIOBase", bases := [Value.ref 220], mro := [Value.ref 235, Value.ref 220, Value.type "object"], ns := 234, qualname := "BufferedIOBase", subclasses := [Value.ref 477] }, slots := #[Option.some (Value.ref 226), Option.none, Option.some (Value.str ("BufferedIOBase") 637), Option.some (Value.str ("BufferedIOBase") 645), Option.some Value.none, Option.some (Value.bool Bool.true)] }
noncomputable def ob246 (P : Params) : Obj := { cls := Value.type "dict", data := Data.dict #[{ hash := PyData.keyHash P ("__module__"), key := Value.str ("__module__") 662, val := Value.str ("io") 667 }, { hash := PyData.keyHash P ("__firstlineno__"), key := Value.str ("__firstlineno__") 666, val := Value.int 156 665 }, { hash := PyData.keyHash P ("__static_attributes__"), key := Value.str ("__static_attributes__") 669, val := Value.ref 245 }, { hash := PyData.keyHash P ("__doc__"), key := Value.str ("__doc__") 670, val := Value.none }] 2 }
noncomputable def ob247 (P : Params) : Obj := { cls := Value.type "type", data := Data.cls { name := "TextIOBase", bases := [Value.ref 220], mro := [Value.ref 247, Value.ref 220, Value.type "object"], ns := 246, qualname := "TextIOBase", subclasses := [Value.ref 724] }, slots := #[Option.some (Value.ref 238), Option.none, Option.some (Value.str ("TextIOBase") 655), Option.some (Value.str ("TextIOBase") 663), Option.some Value.none, Option.some (Value.bool Bool.true)] }
noncomputable def ob286 (P : Params) : Obj := { cls := Value.type "property", data := Data.fields #[Value.ref 285, Value.none, Value.none, Value.none, Value.str ("closed") 720, Value.bool Bool.false] }
noncomputable def ob476 (P : Params) : Obj := { cls := Value.type "dict", data := Data.dict #[{ hash := PyData.keyHash P ("__module__"), key := Value.str ("__module__") 680, val := Value.str ("_io") 685 }, { hash := PyData.keyHash P ("__firstlineno__"), key := Value.str ("__firstlineno__") 684, val := Value.int 158 683 }, { hash := PyData.keyHash P ("__init__"), key := Value.str ("__init__") 694, val := Value.ref 264 }, { hash := PyData.keyHash P ("_BytesIO__check"), key := Value.str ("_BytesIO__check") 701, val := Value.ref 271 }, { hash := PyData.keyHash P ("_BytesIO__line"), key := Value.str ("_BytesIO__line") 712, val := Value.ref 278 }, { hash := PyData.keyHash P ("closed"), key := Value.str ("closed") 720, val := Value.ref 286 }, { hash := PyData.keyHash P ("close"), key := Value.str ("close") 727, val := Value.ref 293 }, { hash := PyData.keyHash P ("__enter__"), key := Value.str ("__enter__") 734, val := Value.ref 300 }, { hash := PyData.keyHash P ("__exit__"), key := Value.str ("__exit__") 742, val := Value.ref 307 }, { hash := PyData.keyHash P ("readable"), key := Value.str ("readable") 749, val := Value.ref 314 }, { hash := PyData.keyHash P ("writable"), key := Value.str ("writable") 756, val := Value.ref 321 }, { hash := PyData.keyHash P ("seekable"), key := Value.str ("seekable") 763, val := Value.ref 328 }, { hash := PyData.keyHash P ("isatty"), key := Value.str ("isatty") 770, val := Value.ref 335 }, { hash := PyData.keyHash P ("flush"), key := Value.str ("flush") 777, val := Value.ref 342 }, { hash := PyData.keyHash P ("fileno"), key := Value.str ("fileno") 784, val := Value.ref 349 }, { hash := PyData.keyHash P ("detach"), key := Value.str ("detach") 791, val := Value.ref 356 }, { hash := PyData.keyHash P ("getvalue"), key := Value.str ("getvalue") 798, val := Value.ref 363 }, { hash := PyData.keyHash P ("getbuffer"), key := Value.str ("getbuffer") 805, val := Value.ref 370 }, { hash := PyData.keyHash P ("tell"), key := Value.str ("tell") 812, val := Value.ref 377 }, { hash := PyData.keyHash P ("seek"), key := Value.str ("seek") 822, val := Value.ref 385 }, { hash := PyData.keyHash P ("truncate"), key := Value.str ("truncate") 830, val := Value.ref 393 }, { hash := PyData.keyHash P ("read"), key := Value.str ("read") 842, val := Value.ref 401 }, { hash := PyData.keyHash P ("read1"), key := Value.str ("read1") 852, val := Value.ref 409 }, { hash := PyData.keyHash P ("readinto"), key := Value.str ("readinto") 862, val := Value.ref 416 }, { hash := PyData.keyHash P ("readinto1"), key := Value.str ("readinto1") 870, val := Value.ref 423 }, { hash := PyData.keyHash P ("readline"), key := Value.str ("readline") 880, val := Value.ref 431 }, { hash := PyData.keyHash P ("readlines"), key := Value.str ("readlines") 888, val := Value.ref 439 }, { hash := PyData.keyHash P ("__iter__"), key := Value.str ("__iter__") 895, val := Value.ref 446 }, { hash := PyData.keyHash P ("__next__"), key := Value.str ("__next__") 903, val := Value.ref 453 }, { hash := PyData.keyHash P ("write"), key := Value.str ("write") 913, val := Value.ref 460 }, { hash := PyData.keyHash P ("writelines"), key := Value.str ("writelines") 921, val := Value.ref 467 }, { hash := PyData.keyHash P ("__repr__"), key := Value.str ("__repr__") 928, val := Value.ref 474 }, { hash := PyData.keyHash P ("__static_attributes__"), key := Value.str ("__static_attributes__") 931, val := Value.ref 475 }, { hash := PyData.keyHash P ("__doc__"), key := Value.str ("__doc__") 932, val := Value.none }] 2 }
noncomputable def ob477 (P : Params) : Obj := { cls := Value.type "type", data := Data.cls { name := "BytesIO", bases := [Value.ref 235], mro := [Value.ref 477, Value.ref 235, Value.ref 220, Value.type "object"], ns := 476, qualname := "BytesIO" }, slots := #[Option.some (Value.ref 250), Option.none, Option.some (Value.str ("BytesIO") 673), Option.some (Value.str ("BytesIO") 681), Option.some Value.none, Option.some (Value.bool Bool.true)] }
noncomputable def ob487 (P : Params) : Obj := { cls := Value.type "tuple", data := Data.seq #[Value.str ("") 949, Value.str ("\n") 950] }
noncomputable def ob493 (P : Params) : Obj := { cls := Value.type "code", data := Data.fields #[Value.str ("__init__") 951, Value.str ("StringIO.__init__") 952, Value.str ("/claim/cut.py") 953, Value.int 331 0, Value.int 3 0, Value.int 0 0, Value.int 0 0, Value.int 3 0, Value.ref 488, Value.bool Bool.true, Value.int 318 0, Value.ref 489, Value.none, Value.ref 490, Value.ref 491, Value.ref 492, Value.int 957 0, Value.int 331 0, Value.str ("/claim/cut.py") 958] }
noncomputable def ob494 (P : Params) : Obj := fnObj fd_sioInit
noncomputable def ob500 (P : Params) : Obj := { cls := Value.type "code", data := Data.fields #[Value.str ("__translated") 960, Value.str ("StringIO.__translated") 961, Value.str ("/claim/cut.py") 962, Value.int 344 0, Value.int 2 0, Value.int 0 0, Value.int 0 0, Value.int 3 0, Value.ref 495, Value.bool Bool.true, Value.int 318 0, Value.ref 496, Value.none, Value.ref 497, Value.ref 498, Value.ref 499, Value.int 966 0, Value.int 344 0, Value.str ("/claim/cut.py") 967] }
noncomputable def ob501 (P : Params) : Obj := fnObj fd_sioTrans
noncomputable def ob507 (P : Params) : Obj := { cls := Value.type "code", data := Data.fields #[Value.str ("__check") 969, Value.str ("StringIO.__check") 970, Value.str ("/claim/cut.py") 971, Value.int 352 0, Value.int 1 0, Value.int 0 0, Value.int 0 0, Value.int 3 0, Value.ref 502, Value.bool Bool.true, Value.int 318 0, Value.ref 503, Value.none, Value.ref 504, Value.ref 505, Value.ref 506, Value.int 973 0, Value.int 352 0, Value.str ("/claim/cut.py") 974] }
noncomputable def ob508 (P : Params) : Obj := fnObj fd_sioCheck
noncomputable def ob530 (P : Params) : Obj := { cls := Value.type "property", data := Data.fields #[Value.ref 529, Value.none, Value.none, Value.none, Value.str ("closed") 1005, Value.bool Bool.false] }
noncomputable def ob538 (P : Params) : Obj := { cls := Value.type "property", data := Data.fields #[Value.ref 537, Value.none, Value.none, Value.none, Value.str ("line_buffering") 1013, Value.bool Bool.false] }
noncomputable def ob546 (P : Params) : Obj := { cls := Value.type "property", data := Data.fields #[Value.ref 545, Value.none, Value.none, Value.none, Value.str ("newlines") 1021, Value.bool Bool.false] }
noncomputable def ob554 (P : Params) : Obj := { cls := Value.type "property", data := Data.fields #[Value.ref 553, Value.none, Value.none, Value.none, Value.str ("encoding") 1029, Value.bool Bool.false] }
noncomputable def ob562 (P : Params) : Obj := { cls := Value.type "property", data := Data.fields #[Value.ref 561, Value.none, Value.none, Value.none, Value.str ("errors") 1037, Value.bool Bool.false] }
noncomputable def ob663 (P : Params) : Obj := { cls := Value.type "tuple", data := Data.seq #[Value.int (-1) 1142] }
noncomputable def ob669 (P : Params) : Obj := { cls := Value.type "code", data := Data.fields #[Value.str ("read") 1143, Value.str ("StringIO.read") 1144, Value.str ("/claim/cut.py") 1145, Value.int 474 0, Value.int 2 0, Value.int 2 0, Value.int 0 0, Value.int 3 0, Value.ref 664, Value.bool Bool.true, Value.int 318 0, Value.ref 665, Value.none, Value.ref 666, Value.ref 667, Value.ref 668, Value.int 1150 0, Value.int 474 0, Value.str ("/claim/cut.py") 1151] }
noncomputable def ob670 (P : Params) : Obj := fnObj fd_sioRead
noncomputable def ob723 (P : Params) : Obj := { cls := Value.type "dict", data := Data.dict #[{ hash := PyData.keyHash P ("__module__"), key := Value.str ("__module__") 942, val := Value.str ("_io") 947 }, { hash := PyData.keyHash P ("__firstlineno__"), key := Value.str ("__firstlineno__") 946, val := Value.int 328 945 }, { hash := PyData.keyHash P ("__init__"), key := Value.str ("__init__") 959, val := Value.ref 494 }, { hash := PyData.keyHash P ("_StringIO__translated"), key := Value.str ("_StringIO__translated") 968, val := Value.ref 501 }, { hash := PyData.keyHash P ("_StringIO__check"), key := Value.str ("_StringIO__check") 975, val := Value.ref 508 }, { hash := PyData.keyHash P ("_StringIO__check_dot"), key := Value.str ("_StringIO__check_dot") 982, val := Value.ref 515 }, { hash := PyData.keyHash P ("_StringIO__line"), key := Value.str ("_StringIO__line") 997, val := Value.ref 522 }, { hash := PyData.keyHash P ("closed"), key := Value.str ("closed") 1005, val := Value.ref 530 }, { hash := PyData.keyHash P ("line_buffering"), key := Value.str ("line_buffering") 1013, val := Value.ref 538 }, { hash := PyData.keyHash P ("newlines"), key := Value.str ("newlines") 1021, val := Value.ref 546 }, { hash := PyData.keyHash P ("encoding"), key := Value.str ("encoding") 1029, val := Value.ref 554 }, { hash := PyData.keyHash P ("errors"), key := Value.str ("errors") 1037, val := Value.ref 562 }, { hash := PyData.keyHash P ("close"), key := Value.str ("close") 1044, val := Value.ref 569 }, { hash := PyData.keyHash P ("__enter__"), key := Value.str ("__enter__") 1051, val := Value.ref 576 }, { hash := PyData.keyHash P ("__exit__"), key := Value.str ("__exit__") 1059, val := Value.ref 583 }, { hash := PyData.keyHash P ("readable"), key := Value.str ("readable") 1066, val := Value.ref 590 }, { hash := PyData.keyHash P ("writable"), key := Value.str ("writable") 1073, val := Value.ref 597 }, { hash := PyData.keyHash P ("seekable"), key := Value.str ("seekable") 1080, val := Value.ref 604 }, { hash := PyData.keyHash P ("isatty"), key := Value.str ("isatty") 1087, val := Value.ref 611 }, { hash := PyData.keyHash P ("flush"), key := Value.str ("flush") 1094, val := Value.ref 618 }, { hash := PyData.keyHash P ("fileno"), key := Value.str ("fileno") 1101, val := Value.ref 625 }, { hash := PyData.keyHash P ("detach"), key := Value.str ("detach") 1108, val := Value.ref 632 }, { hash := PyData.keyHash P ("getvalue"), key := Value.str ("getvalue") 1115, val := Value.ref 639 }, { hash := PyData.keyHash P ("tell"), key := Value.str ("tell") 1122, val := Value.ref 646 }, { hash := PyData.keyHash P ("seek"), key := Value.str ("seek") 1132, val := Value.ref 654 }, { hash := PyData.keyHash P ("truncate"), key := Value.str ("truncate") 1140, val := Value.ref 662 }, { hash := PyData.keyHash P ("read"), key := Value.str ("read") 1152, val := Value.ref 670 }, { hash := PyData.keyHash P ("readline"), key := Value.str ("readline") 1162, val := Value.ref 678 }, { hash := PyData.keyHash P ("readlines"), key := Value.str ("readlines") 1172, val := Value.ref 686 }, { hash := PyData.keyHash P ("__iter__"), key := Value.str ("__iter__") 1179, val := Value.ref 693 }, { hash := PyData.keyHash P ("__next__"), key := Value.str ("__next__") 1187, val := Value.ref 700 }, { hash := PyData.keyHash P ("write"), key := Value.str ("write") 1199, val := Value.ref 707 }, { hash := PyData.keyHash P ("writelines"), key := Value.str ("writelines") 1207, val := Value.ref 714 }, { hash := PyData.keyHash P ("__repr__"), key := Value.str ("__repr__") 1214, val := Value.ref 721 }, { hash := PyData.keyHash P ("__static_attributes__"), key := Value.str ("__static_attributes__") 1218, val := Value.ref 722 }, { hash := PyData.keyHash P ("__doc__"), key := Value.str ("__doc__") 1219, val := Value.none }] 2 }
noncomputable def ob724 (P : Params) : Obj := { cls := Value.type "type", data := Data.cls { name := "StringIO", bases := [Value.ref 247], mro := [Value.ref 724, Value.ref 247, Value.ref 220, Value.type "object"], ns := 723, qualname := "StringIO" }, slots := #[Option.some (Value.ref 480), Option.none, Option.some (Value.str ("StringIO") 935), Option.some (Value.str ("StringIO") 943), Option.some Value.none, Option.some (Value.bool Bool.true)] }
noncomputable def ob776 (P : Params) : Obj := { cls := Value.type "tuple", data := Data.seq #[Value.none, Value.none, Value.bool Bool.false, Value.bool Bool.false] }
noncomputable def ob782 (P : Params) : Obj := { cls := Value.type "code", data := Data.fields #[Value.str ("__init__") 1295, Value.str ("shlex.__init__") 1296, Value.str ("/claim/cut.py") 1297, Value.int 600 0, Value.int 5 0, Value.int 0 0, Value.int 0 0, Value.int 3 0, Value.ref 777, Value.bool Bool.true, Value.int 318 0, Value.ref 778, Value.none, Value.ref 779, Value.ref 780, Value.ref 781, Value.int 1304 0, Value.int 600 0, Value.str ("/claim/cut.py") 1305] }
noncomputable def ob783 (P : Params) : Obj := fnObj fd_shInit
noncomputable def ob789 (P : Params) : Obj := { cls := Value.type "code", data := Data.fields #[Value.str ("punctuation_chars") 1307, Value.str ("shlex.punctuation_chars") 1308, Value.str ("/claim/cut.py") 1309, Value.int 641 0, Value.int 1 0, Value.int 0 0, Value.int 0 0, Value.int 3 0, Value.ref 784, Value.bool Bool.true, Value.int 318 0, Value.ref 785, Value.none, Value.ref 786, Value.ref 787, Value.ref 788, Value.int 1311 0, Value.int 641 0, Value.str ("/claim/cut.py") 1312] }
noncomputable def ob790 (P : Params) : Obj := fnObj fd_shPunct
noncomputable def ob791 (P : Params) : Obj := { cls := Value.type "property", data := Data.fields #[Value.ref 790, Value.none, Value.none, Value.none, Value.str ("punctuation_chars") 1314, Value.bool Bool.false] }
noncomputable def ob819 (P : Params) : Obj := { cls := Value.type "code", data := Data.fields #[Value.str ("get_token") 1339, Value.str ("shlex.get_token") 1340, Value.str ("/claim/cut.py") 1341, Value.int 668 0, Value.int 1 0, Value.int 0 0, Value.int 0 0, Value.int 3 0, Value.ref 814, Value.bool Bool.true, Value.int 318 0, Value.ref 815, Value.none, Value.ref 816, Value.ref 817, Value.ref 818, Value.int 1348 0, Value.int 668 0, Value.str ("/claim/cut.py") 1349] }
noncomputable def ob820 (P : Params) : Obj := fnObj fd_getToken
noncomputable def ob826 (P : Params) : Obj := { cls := Value.type "code", data := Data.fields #[Value.str ("read_token") 1351, Value.str ("shlex.read_token") 1352, Value.str ("/claim/cut.py") 1353, Value.int 695 0, Value.int 1 0, Value.int 0 0, Value.int 0 0, Value.int 3 0, Value.ref 821, Value.bool Bool.true, Value.int 318 0, Value.ref 822, Value.none, Value.ref 823, Value.ref 824, Value.ref 825, Value.int 1359 0, Value.int 695 0, Value.str ("/claim/cut.py") 1360] }
noncomputable def ob827 (P : Params) : Obj := fnObj fd_readToken
noncomputable def ob848 (P : Params) : Obj := { cls := Value.type "code", data := Data.fields #[Value.str ("__iter__") 1379, Value.str ("shlex.__iter__") 1380, Value.str ("/claim/cut.py") 1381, Value.int 842 0, Value.int 1 0, Value.int 0 0, Value.int 0 0, Value.int 3 0, Value.ref 843, Value.bool Bool.true, Value.int 318 0, Value.ref 844, Value.none, Value.ref 845, Value.ref 846, Value.ref 847, Value.int 1383 0, Value.int 842 0, Value.str ("/claim/cut.py") 1384] }
noncomputable def ob849 (P : Params) : Obj := fnObj fd_shIter
noncomputable def ob855 (P : Params) : Obj := { cls := Value.type "code", data := Data.fields #[Value.str ("__next__") 1386, Value.str ("shlex.__next__") 1387, Value.str ("/claim/cut.py") 1388, Value.int 845 0, Value.int 1 0, Value.int 0 0, Value.int 0 0, Value.int 3 0, Value.ref 850, Value.bool Bool.true, Value.int 318 0, Value.ref 851, Value.none, Value.ref 852, Value.ref 853, Value.ref 854, Value.int 1391 0, Value.int 845 0, Value.str ("/claim/cut.py") 1392] }
noncomputable def ob856 (P : Params) : Obj := fnObj fd_shNext
noncomputable def ob858 (P : Params) : Obj := { cls := Value.type "dict", data := Data.dict #[{ hash := PyData.keyHash P ("__module__"), key := Value.str ("__module__") 1290, val := Value.str ("cpy313.shlex") 1281 }, { hash := PyData.keyHash P ("__firstlineno__"), key := Value.str ("__firstlineno__") 1294, val := Value.int 598 1293 }, { hash := PyData.keyHash P ("__init__"), key := Value.str ("__init__") 1306, val := Value.ref 783 }, { hash := PyData.keyHash P ("punctuation_chars"), key := Value.str ("punctuation_chars") 1314, val := Value.ref 791 }, { hash := PyData.keyHash P ("push_token"), key := Value.str ("push_token") 1322, val := Value.ref 798 }, { hash := PyData.keyHash P ("push_source"), key := Value.str ("push_source") 1331, val := Value.ref 806 }, { hash := PyData.keyHash P ("pop_source"), key := Value.str ("pop_source") 1338, val := Value.ref 813 }, { hash := PyData.keyHash P ("get_token"), key := Value.str ("get_token") 1350, val := Value.ref 820 }, { hash := PyData.keyHash P ("read_token"), key := Value.str ("read_token") 1361, val := Value.ref 827 }, { hash := PyData.keyHash P ("sourcehook"), key := Value.str ("sourcehook") 1369, val := Value.ref 834 }, { hash := PyData.keyHash P ("error_leader"), key := Value.str ("error_leader") 1378, val := Value.ref 842 }, { hash := PyData.keyHash P ("__iter__"), key := Value.str ("__iter__") 1385, val := Value.ref 849 }, { hash := PyData.keyHash P ("__next__"), key := Value.str ("__next__") 1393, val := Value.ref 856 }, { hash := PyData.keyHash P ("__static_attributes__"), key := Value.str ("__static_attributes__") 1414, val := Value.ref 857 }, { hash := PyData.keyHash P ("__dict__"), key := Value.str ("__dict__") 1416, val := Value.ref 860 }, { hash := PyData.keyHash P ("__weakref__"), key := Value.str ("__weakref__") 1418, val := Value.ref 861 }, { hash := PyData.keyHash P ("__doc__"), key := Value.str ("__doc__") 1419, val := Value.none }] 4 }
noncomputable def ob859 (P : Params) : Obj := { cls := Value.type "type", data := Data.cls { name := "shlex", bases := [Value.type "object"], mro := [Value.ref 859, Value.type "object"], ns := 858, qualname := "shlex" }, slots := #[Option.none, Option.none, Option.some (Value.str ("shlex") 1283), Option.some (Value.str ("shlex") 1291), Option.some (Value.builtin "object.__new__"), Option.some (Value.bool Bool.true)] }
noncomputable def ob860 (P : Params) : Obj := { cls := Value.type "getset_descriptor", data := Data.fields #[Value.str ("__dict__") 1415, Value.ref 859, Value.builtin "function.__dict__", Value.builtin "function.__dict__#set"] }
noncomputable def ob861 (P : Params) : Obj := { cls := Value.type "getset_descriptor", data := Data.fields #[Value.str ("__weakref__") 1417, Value.ref 859, Value.builtin "ExceptionGroup.__weakref__", Value.none] }
noncomputable def ob864 (P : Params) : Obj := { cls := Value.type "tuple", data := Data.seq #[Value.bool Bool.false, Value.bool Bool.true] }
noncomputable def ob870 (P : Params) : Obj := { cls := Value.type "code", data := Data.fields #[Value.str ("split") 1422, Value.str ("split") 1423, Value.str ("/claim/cut.py") 1424, Value.int 850 0, Value.int 3 0, Value.int 0 0, Value.int 0 0, Value.int 3 0, Value.ref 865, Value.bool Bool.true, Value.int 318 0, Value.ref 866, Value.none, Value.ref 867, Value.ref 868, Value.ref 869, Value.int 1429 0, Value.int 850 0, Value.str ("/claim/cut.py") 1430] }
noncomputable def ob871 (P : Params) : Obj := fnObj fd_split
noncomputable def ob877 (P : Params) : Obj := { cls := Value.type "code", data := Data.fields #[Value.str ("join") 1432, Value.str ("join") 1433, Value.str ("/claim/cut.py") 1434, Value.int 858 0, Value.int 1 0, Value.int 0 0, Value.int 0 0, Value.int 3 0, Value.ref 872, Value.bool Bool.true, Value.int 318 0, Value.ref 873, Value.none, Value.ref 874, Value.ref 875, Value.ref 876, Value.int 1436 0, Value.int 858 0, Value.str ("/claim/cut.py") 1437] }
noncomputable def ob878 (P : Params) : Obj := fnObj fd_joinS
noncomputable def ob879 (P : Params) : Obj := { cls := Value.type "builtin_function_or_method", data := Data.fields #[Value.builtin "re.Pattern.search", Value.ref 176] }
noncomputable def ob885 (P : Params) : Obj := { cls := Value.type "code", data := Data.fields #[Value.str ("quote") 1442, Value.str ("quote") 1443, Value.str ("/claim/cut.py") 1444, Value.int 862 0, Value.int 1 0, Value.int 0 0, Value.int 0 0, Value.int 3 0, Value.ref 880, Value.bool Bool.true, Value.int 318 0, Value.ref 881, Value.none, Value.ref 882, Value.ref 883, Value.ref 884, Value.int 1446 0, Value.int 862 0, Value.str ("/claim/cut.py") 1447] }
noncomputable def ob886 (P : Params) : Obj := fnObj fd_quote
noncomputable def ob890 (P : Params) : Obj := { cls := Value.type "code", data := Data.fields #[Value.str ("_law_rows") 1451, Value.str ("_law_rows") 1452, Value.str ("/claim/cut.py") 1453, Value.int 869 0, Value.int 1 0, Value.int 0 0, Value.int 0 0, Value.int 3 0, Value.ref 887, Value.bool Bool.true, Value.int 318 0, Value.ref 888, Value.none, Value.none, Value.none, Value.ref 889, Value.int 1454 0, Value.int 869 0, Value.str ("/claim/cut.py") 1455] }
noncomputable def ob891 (P : Params) : Obj := fnObj fd_rows
noncomputable def ob897 (P : Params) : Obj := { cls := Value.type "code", data := Data.fields #[Value.str ("_law_line") 1457, Value.str ("_law_line") 1458, Value.str ("/claim/cut.py") 1459, Value.int 877 0, Value.int 1 0, Value.int 0 0, Value.int 0 0, Value.int 3 0, Value.ref 892, Value.bool Bool.true, Value.int 318 0, Value.ref 893, Value.none, Value.ref 894, Value.ref 895, Value.ref 896, Value.int 1463 0, Value.int 877 0, Value.str ("/claim/cut.py") 1464] }
noncomputable def ob898 (P : Params) : Obj := fnObj fd_line
noncomputable def ob904 (P : Params) : Obj := { cls := Value.type "code", data := Data.fields #[Value.str ("_law_read") 1466, Value.str ("_law_read") 1467, Value.str ("/claim/cut.py") 1468, Value.int 885 0, Value.int 1 0, Value.int 0 0, Value.int 0 0, Value.int 3 0, Value.ref 899, Value.bool Bool.true, Value.int 318 0, Value.ref 900, Value.none, Value.ref 901, Value.ref 902, Value.ref 903, Value.int 1472 0, Value.int 885 0, Value.str ("/claim/cut.py") 1473] }
noncomputable def ob905 (P : Params) : Obj := fnObj fd_read
noncomputable def ob909 (P : Params) : Obj := { cls := Value.type "code", data := Data.fields #[Value.str ("_law_due") 1475, Value.str ("_law_due") 1476, Value.str ("/claim/cut.py") 1477, Value.int 892 0, Value.int 1 0, Value.int 0 0, Value.int 0 0, Value.int 3 0, Value.ref 906, Value.bool Bool.true, Value.int 318 0, Value.ref 907, Value.none, Value.none, Value.none, Value.ref 908, Value.int 1478 0, Value.int 892 0, Value.str ("/claim/cut.py") 1479] }
noncomputable def ob910 (P : Params) : Obj := fnObj fd_due
noncomputable def ob916 (P : Params) : Obj := { cls := Value.type "code", data := Data.fields #[Value.str ("_law_gone_through") 1481, Value.str ("_law_gone_through") 1482, Value.str ("/claim/cut.py") 1483, Value.int 895 0, Value.int 1 0, Value.int 0 0, Value.int 0 0, Value.int 3 0, Value.ref 911, Value.bool Bool.true, Value.int 318 0, Value.ref 912, Value.none, Value.ref 913, Value.ref 914, Value.ref 915, Value.int 1489 0, Value.int 895 0, Value.str ("/claim/cut.py") 1490] }
noncomputable def ob917 (P : Params) : Obj := fnObj fd_gone
noncomputable def ob921 (P : Params) : Obj := { cls := Value.type "code", data := Data.fields #[Value.str ("_law_chains") 1492, Value.str ("_law_chains") 1493, Value.str ("/claim/cut.py") 1494, Value.int 908 0, Value.int 2 0, Value.int 0 0, Value.int 0 0, Value.int 3 0, Value.ref 918, Value.bool Bool.true, Value.int 318 0, Value.ref 919, Value.none, Value.none, Value.none, Value.ref 920, Value.int 1495 0, Value.int 908 0, Value.str ("/claim/cut.py") 1496] }
noncomputable def ob922 (P : Params) : Obj := fnObj fd_chains
noncomputable def ob926 (P : Params) : Obj := { cls := Value.type "code", data := Data.fields #[Value.str ("law") 1498, Value.str ("law") 1499, Value.str ("/claim/cut.py") 1500, Value.int 917 0, Value.int 1 0, Value.int 0 0, Value.int 0 0, Value.int 3 0, Value.ref 923, Value.bool Bool.true, Value.int 318 0, Value.ref 924, Value.none, Value.none, Value.none, Value.ref 925, Value.int 1501 0, Value.int 917 0, Value.str ("/claim/cut.py") 1502] }
noncomputable def ob927 (P : Params) : Obj := fnObj fd_law
noncomputable def KL (P : Params) : Frag := [(2, ob2 P), (3, ob3 P), (4, ob4 P), (50, ob50 P), (51, ob51 P), (65, ob65 P), (66, ob66 P), (69, ob69 P), (70, ob70 P), (71, ob71 P), (72, ob72 P), (73, ob73 P), (84, ob84 P), (85, ob85 P), (86, ob86 P), (96, ob96 P), (102, ob102 P), (103, ob103 P), (109, ob109 P), (110, ob110 P), (116, ob116 P), (117, ob117 P), (121, ob121 P), (122, ob122 P), (128, ob128 P), (129, ob129 P), (135, ob135 P), (136, ob136 P), (142, ob142 P), (143, ob143 P), (149, ob149 P), (150, ob150 P), (156, ob156 P), (157, ob157 P), (166, ob166 P), (167, ob167 P), (168, ob168 P), (169, ob169 P), (175, ob175 P), (176, ob176 P), (189, ob189 P), (190, ob190 P), (199, ob199 P), (200, ob200 P), (201, ob201 P), (216, ob216 P), (217, ob217 P), (219, ob219 P), (220, ob220 P), (221, ob221 P), (222, ob222 P), (223, ob223 P), (234, ob234 P), (235, ob235 P), (246, ob246 P), (247, ob247 P), (286, ob286 P), (476, ob476 P), (477, ob477 P), (487, ob487 P), (493, ob493 P), (494, ob494 P), (500, ob500 P), (501, ob501 P), (507, ob507 P), (508, ob508 P), (530, ob530 P), (538, ob538 P), (546, ob546 P), (554, ob554 P), (562, ob562 P), (663, ob663 P), (669, ob669 P), (670, ob670 P), (723, ob723 P), (724, ob724 P), (776, ob776 P), (782, ob782 P), (783, ob783 P), (789, ob789 P), (790, ob790 P), (791, ob791 P), (819, ob819 P), (820, ob820 P), (826, ob826 P), (827, ob827 P), (848, ob848 P), (849, ob849 P), (855, ob855 P), (856, ob856 P), (858, ob858 P), (859, ob859 P), (860, ob860 P), (861, ob861 P), (864, ob864 P), (870, ob870 P), (871, ob871 P), (877, ob877 P), (878, ob878 P), (879, ob879 P), (885, ob885 P), (886, ob886 P), (890, ob890 P), (891, ob891 P), (897, ob897 P), (898, ob898 P), (904, ob904 P), (905, ob905 P), (909, ob909 P), (910, ob910 P), (916, ob916 P), (917, ob917 P), (921, ob921 P), (922, ob922 P), (926, ob926 P), (927, ob927 P)]
noncomputable abbrev KT (w : World) : Frag := KL w.params
/-- the table of the nested code of join -/
noncomputable abbrev tabO (ps : Array Value) : Obj := { cls := .none, data := .fields ps }
noncomputable def KX (P : Params) : Frag := (873, tabO #[]) :: KL P
noncomputable def addrsX : List Addr := [873, 2, 3, 4, 50, 51, 65, 66, 69, 70, 71, 72, 73, 84, 85, 86, 96, 102, 103, 109, 110, 116, 117, 121, 122, 128, 129, 135, 136, 142, 143, 149, 150, 156, 157, 166, 167, 168, 169, 175, 176, 189, 190, 199, 200, 201, 216, 217, 219, 220, 221, 222, 223, 234, 235, 246, 247, 286, 476, 477, 487, 493, 494, 500, 501, 507, 508, 530, 538, 546, 554, 562, 663, 669, 670, 723, 724, 776, 782, 783, 789, 790, 791, 819, 820, 826, 827, 848, 849, 855, 856, 858, 859, 860, 861, 864, 870, 871, 877, 878, 879, 885, 886, 890, 891, 897, 898, 904, 905, 909, 910, 916, 917, 921, 922, 926, 927]
theorem addrs_ok (P : Params) : addrsX = (KX P).map (·.1) := by kernel_rfl
theorem at_dec (w : World) : (KT w).lookup 51 = some (fnObj fd_dec) := by kernel_rfl!
theorem at_niInit (w : World) : (KT w).lookup 66 = some (fnObj fd_niInit) := by kernel_rfl!
theorem at_tsInit (w : World) : (KT w).lookup 103 = some (fnObj fd_tsInit) := by kernel_rfl!
theorem at_getNi (w : World) : (KT w).lookup 110 = some (fnObj fd_getNi) := by kernel_rfl!
theorem at_add (w : World) : (KT w).lookup 117 = some (fnObj fd_add) := by kernel_rfl!
theorem at_prepare (w : World) : (KT w).lookup 122 = some (fnObj fd_prepare) := by kernel_rfl!
theorem at_getReady (w : World) : (KT w).lookup 129 = some (fnObj fd_getReady) := by kernel_rfl!
theorem at_isActive (w : World) : (KT w).lookup 136 = some (fnObj fd_isActive) := by kernel_rfl!
theorem at_tsBool (w : World) : (KT w).lookup 143 = some (fnObj fd_tsBool) := by kernel_rfl!
theorem at_done (w : World) : (KT w).lookup 150 = some (fnObj fd_done) := by kernel_rfl!
theorem at_findCycle (w : World) : (KT w).lookup 157 = some (fnObj fd_findCycle) := by kernel_rfl!
theorem at_index (w : World) : (KT w).lookup 190 = some (fnObj fd_index) := by kernel_rfl!
theorem at_ioNew (w : World) : (KT w).lookup 217 = some (fnObj fd_ioNew) := by kernel_rfl!
theorem at_sioInit (w : World) : (KT w).lookup 494 = some (fnObj fd_sioInit) := by kernel_rfl!
theorem at_sioTrans (w : World) : (KT w).lookup 501 = some (fnObj fd_sioTrans) := by kernel_rfl!
theorem at_sioCheck (w : World) : (KT w).lookup 508 = some (fnObj fd_sioCheck) := by kernel_rfl!
theorem at_sioRead (w : World) : (KT w).lookup 670 = some (fnObj fd_sioRead) := by kernel_rfl!
theorem at_shInit (w : World) : (KT w).lookup 783 = some (fnObj fd_shInit) := by kernel_rfl!
theorem at_shPunct (w : World) : (KT w).lookup 790 = some (fnObj fd_shPunct) := by kernel_rfl!
theorem at_getToken (w : World) : (KT w).lookup 820 = some (fnObj fd_getToken) := by kernel_rfl!
theorem at_readToken (w : World) : (KT w).lookup 827 = some (fnObj fd_readToken) := by kernel_rfl!
theorem at_shIter (w : World) : (KT w).lookup 849 = some (fnObj fd_shIter) := by kernel_rfl!
theorem at_shNext (w : World) : (KT w).lookup 856 = some (fnObj fd_shNext) := by kernel_rfl!
theorem at_split (w : World) : (KT w).lookup 871 = some (fnObj fd_split) := by kernel_rfl!
theorem at_joinS (w : World) : (KT w).lookup 878 = some (fnObj fd_joinS) := by kernel_rfl!
theorem at_quote (w : World) : (KT w).lookup 886 = some (fnObj fd_quote) := by kernel_rfl!
theorem at_rows (w : World) : (KT w).lookup 891 = some (fnObj fd_rows) := by kernel_rfl!
theorem at_line (w : World) : (KT w).lookup 898 = some (fnObj fd_line) := by kernel_rfl!
theorem at_read (w : World) : (KT w).lookup 905 = some (fnObj fd_read) := by kernel_rfl!
theorem at_due (w : World) : (KT w).lookup 910 = some (fnObj fd_due) := by kernel_rfl!
theorem at_gone (w : World) : (KT w).lookup 917 = some (fnObj fd_gone) := by kernel_rfl!
theorem at_chains (w : World) : (KT w).lookup 922 = some (fnObj fd_chains) := by kernel_rfl!
theorem at_law (w : World) : (KT w).lookup 927 = some (fnObj fd_law) := by kernel_rfl!
end
end
section
set_option maxHeartbeats 0
noncomputable def en (P : Params) (k : Str) (t : Nat) (v : Value) : DictEntry := { hash := PyData.keyHash P k, key := .str k t, val := v }
noncomputable def hb0 (P : Params) : Obj := boot_o_0 P
noncomputable def hb1 (P : Params) : Obj := { cls := .type "dict", data := .dict #[en P "builtins" 162 (.ref 4), en P "__main__" 163 (.ref 5), en P "_sre" 244 (.ref 12), en P "_collections" 292 (.ref 30)] 4 }
noncomputable def hb2 (P : Params) : Obj := { cls := .none, data := .dict #[en P "\x69mport.loaded._sre" 183 (.bool true), en P "class._frozen_importlib.BuiltinImporter" 185 (.ref 14), en P "watched.\x69mport" 206 (.ref 18), en P "class._frozen_importlib.ModuleSpec" 216 (.ref 22), en P "sys.modules.booked-epoch" 245 (.int 4 0), en P "\x69mport.later-laid._sre" 270 (.bool true), en P "watched.library" 272 (.ref 27), en P "watched.library-objects" 0 (.str "\x0c\x1e" 0), en P "watched.library-deep._sre" 273 (.str "\x04\x00\x00\x0b\x04\x00\x00\x0b\x04\x00\x00\x03\x04\x00\x00\x0b\x08\x04dict\x02" 0), en P "\x69mport.loaded._collections" 280 (.bool true), en P "sys.modules.landed._collections" 294 (.bool true), en P "\x69mport.later-laid._collections" 309 (.bool true), en P "watched.library-deep._collections" 311 (.str "\x04\x00\x00\x1d\x04\x00\x00\x1d\x04\x00\x00\x03\x04\x00\x00\x1d\x08\x04dict\x02" 0)] 13 }
noncomputable def hb3 (P : Params) : Obj := { cls := .type "dict", data := .dict #[en P "__name__" 165 (.str "__main__" 164), en P "__doc__" 166 (.none), en P "__package__" 167 (.none), en P "__loader__" 168 (.builtin "__main__.__loader__#opaque"), en P "__spec__" 169 (.none), en P "__annotations__" 170 (.ref 6), en P "__builtins__" 171 (.ref 4), en P "__file__" 173 (.str "/claim/cut.py" 172), en P "__cached__" 174 (.none), en P "_sre" 275 (.ref 12), en P "deque" 317 (.type "collections.deque")] 11 }
noncomputable def hb4 (P : Params) : Obj := { cls := .type "module", dict := some 0 }
noncomputable def hb5 (P : Params) : Obj := { cls := .type "module", dict := some 3 }
noncomputable def hb6 (P : Params) : Obj := { cls := .type "dict", data := .dict #[] }
noncomputable def hb7 (P : Params) : Obj := { cls := .type "tuple", data := .seq #[] }
noncomputable def hb8 (P : Params) : Obj := { cls := .none, data := .fields #[] }
noncomputable def hb9 (P : Params) : Obj := { cls := .type "code", data := .fields #[.str "<module>" 176, .str "<module>" 177, .str "/claim/cut.py" 178, .int 1 0, .int 0 0, .int 0 0, .int 0 0, .int 0 0, .ref 7, .bool false, .int 175 0, .ref 8, .none, .none, .none, .none, .int 179 0, .int 1 0, .str "/claim/cut.py" 180] }
noncomputable def hb10 (P : Params) : Obj := { cls := .type "frame", slots := #[some (.ref 9), some (.ref 3), some (.ref 3), none, some (.str "__main__" 164), none, some (.ref 0)] }
noncomputable def hb11 (P : Params) : Obj := { cls := .type "dict", data := .dict #[en P "__name__" 247 (.str "_sre" 246), en P "__doc__" 248 (.none), en P "__package__" 250 (.str "" 249), en P "__loader__" 251 (.builtin "off-the-table:_sre.__loader__:shared#opaque"), en P "__spec__" 252 (.builtin "off-the-table:_sre.__spec__:shared#opaque"), en P "compile" 253 (.builtin "_sre.compile"), en P "template" 254 (.builtin "off-the-table:_sre.template:shared#opaque"), en P "getcodesize" 255 (.builtin "off-the-table:_sre.getcodesize:shared#opaque"), en P "ascii_iscased" 256 (.builtin "off-the-table:_sre.ascii_iscased:shared#opaque"), en P "unicode_iscased" 257 (.builtin "off-the-table:_sre.unicode_iscased:shared#opaque"), en P "ascii_tolower" 258 (.builtin "off-the-table:_sre.ascii_tolower:shared#opaque"), en P "unicode_tolower" 259 (.builtin "off-the-table:_sre.unicode_tolower:shared#opaque"), en P "MAGIC" 261 (.int 20230612 260), en P "CODESIZE" 263 (.int 4 262), en P "MAXREPEAT" 265 (.int 4294967295 264), en P "MAXGROUPS" 267 (.int 1073741823 266), en P "copyright" 269 (.str " SRE 2.2.2 Copyright (c) 1997-2002 by Secret Labs AB " 268)] 17 }
noncomputable def hb12 (P : Params) : Obj := { cls := .type "module", dict := some 11 }
noncomputable def hb13 (P : Params) : Obj := { cls := .type "dict", data := .dict #[en P "__module__" 189 (.str "_frozen_importlib" 186), en P "__firstlineno__" 190 (.int 971 187), en P "__doc__" 191 (.builtin "_frozen_importlib.BuiltinImporter.__doc__:str#opaque"), en P "_ORIGIN" 192 (.str "built-in" 188), en P "find_spec" 193 (.builtin "_frozen_importlib.BuiltinImporter.find_spec#opaque"), en P "create_module" 194 (.builtin "_frozen_importlib.BuiltinImporter.create_module#opaque"), en P "exec_module" 195 (.builtin "_frozen_importlib.BuiltinImporter.exec_module#opaque"), en P "get_code" 196 (.builtin "_frozen_importlib.BuiltinImporter.get_code#opaque"), en P "get_source" 197 (.builtin "_frozen_importlib.BuiltinImporter.get_source#opaque"), en P "is_package" 198 (.builtin "_frozen_importlib.BuiltinImporter.is_package#opaque"), en P "load_module" 199 (.builtin "_frozen_importlib.BuiltinImporter.load_module#opaque"), en P "__static_attributes__" 200 (.ref 15), en P "__dict__" 202 (.ref 16), en P "__weakref__" 204 (.ref 17)] 14 }
noncomputable def hb14 (P : Params) : Obj := { cls := .type "type", data := .cls { name := "BuiltinImporter", bases := [.type "object"], mro := [.ref 14, .type "object"], ns := 13, qualname := "BuiltinImporter" } }
noncomputable def hb15 (P : Params) : Obj := { cls := .type "tuple", data := .seq #[] }
noncomputable def hb16 (P : Params) : Obj := { cls := .type "getset_descriptor", data := .fields #[.str "__dict__" 201, .ref 14, .builtin "function.__dict__", .builtin "function.__dict__#set"] }
noncomputable def hb17 (P : Params) : Obj := { cls := .type "getset_descriptor", data := .fields #[.str "__weakref__" 203, .ref 14, .builtin "ExceptionGroup.__weakref__", .none] }
noncomputable def hb18 (P : Params) : Obj := { cls := .none, data := .seq #[.int 13 0, .str "\x06½\n__module__\x06º\x11_frozen_importlib\x06¾\x0f__firstlineno__\x04»\x00ϋ\x06¿\x07__doc__\t4_frozen_importlib.BuiltinImporter.__doc__:str#opaque\x06À\x07_ORIGIN\x06¼\x08built-in\x06Á\tfind_spec\t2_frozen_importlib.BuiltinImporter.find_spec#opaque\x06Â\x0dcreate_module\t6_frozen_importlib.BuiltinImporter.create_module#opaque\x06Ã\x0bexec_module\t4_frozen_importlib.BuiltinImporter.exec_module#opaque\x06Ä\x08get_code\t1_frozen_importlib.BuiltinImporter.get_code#opaque\x06Å\nget_source\t3_frozen_importlib.BuiltinImporter.get_source#opaque\x06Æ\nis_package\t3_frozen_importlib.BuiltinImporter.is_package#opaque\x06Ç\x0bload_module\t4_frozen_importlib.BuiltinImporter.load_module#opaque\x06È\x15__static_attributes__\x04\x00\x00\x0f\x06Ê\x08__dict__\x04\x00\x00\x10\x06Ì\x0b__weakref__\x04\x00\x00\x11" 0, .bool true, .bool true, .str "" 205, .int 21 0, .str "\x06ã\n__module__\x06Ù\x11_frozen_importlib\x06ä\x0f__firstlineno__\x04Ú\x00Ȳ\x06å\x07__doc__\t/_frozen_importlib.ModuleSpec.__doc__:str#opaque\x06æ\x08__init__\t,_frozen_importlib.ModuleSpec.__init__#opaque\x06ç\x08__repr__\t,_frozen_importlib.ModuleSpec.__repr__#opaque\x06è\x06__eq__\t*_frozen_importlib.ModuleSpec.__eq__#opaque\x06é\x06cached\t*_frozen_importlib.ModuleSpec.cached#opaque\x06ê\x06parent\t*_frozen_importlib.ModuleSpec.parent#opaque\x06ë\x0chas_location\t0_frozen_importlib.ModuleSpec.has_location#opaque\x06ì\x15__static_attributes__\x04\x00\x00\x17\x06î\x08__dict__\x04\x00\x00\x18\x06ð\x0b__weakref__\x04\x00\x00\x19\x06ñ\x08__hash__\x00" 0, .bool true, .bool true, .str "" 242] 1 }
noncomputable def hb19 (P : Params) : Obj := { cls := .type "list", data := .seq #[] }
noncomputable def hb20 (P : Params) : Obj := { cls := .type "dict", data := .dict #[en P "name" 208 (.str "_sre" 207), en P "loader" 209 (.ref 14), en P "origin" 210 (.str "built-in" 184), en P "loader_state" 211 (.none), en P "submodule_search_locations" 212 (.none), en P "_uninitialized_submodules" 213 (.ref 19), en P "_set_fileattr" 214 (.bool false), en P "_cached" 215 (.none), en P "_initializing" 243 (.bool false)] 9 }
noncomputable def hb21 (P : Params) : Obj := { cls := .type "dict", data := .dict #[en P "__module__" 227 (.str "_frozen_importlib" 217), en P "__firstlineno__" 228 (.int 562 218), en P "__doc__" 229 (.builtin "_frozen_importlib.ModuleSpec.__doc__:str#opaque"), en P "__init__" 230 (.builtin "_frozen_importlib.ModuleSpec.__init__#opaque"), en P "__repr__" 231 (.builtin "_frozen_importlib.ModuleSpec.__repr__#opaque"), en P "__eq__" 232 (.builtin "_frozen_importlib.ModuleSpec.__eq__#opaque"), en P "cached" 233 (.builtin "_frozen_importlib.ModuleSpec.cached#opaque"), en P "parent" 234 (.builtin "_frozen_importlib.ModuleSpec.parent#opaque"), en P "has_location" 235 (.builtin "_frozen_importlib.ModuleSpec.has_location#opaque"), en P "__static_attributes__" 236 (.ref 23), en P "__dict__" 238 (.ref 24), en P "__weakref__" 240 (.ref 25), en P "__hash__" 241 (.none)] 13 }
noncomputable def hb22 (P : Params) : Obj := { cls := .type "type", data := .cls { name := "ModuleSpec", bases := [.type "object"], mro := [.ref 22, .type "object"], ns := 21, qualname := "ModuleSpec" } }
noncomputable def hb23 (P : Params) : Obj := { cls := .type "tuple", data := .seq #[.str "_cached" 219, .str "_set_fileattr" 220, .str "_uninitialized_submodules" 221, .str "loader" 222, .str "loader_state" 223, .str "name" 224, .str "origin" 225, .str "submodule_search_locations" 226] }
noncomputable def hb24 (P : Params) : Obj := { cls := .type "getset_descriptor", data := .fields #[.str "__dict__" 237, .ref 22, .builtin "function.__dict__", .builtin "function.__dict__#set"] }
noncomputable def hb25 (P : Params) : Obj := { cls := .type "getset_descriptor", data := .fields #[.str "__weakref__" 239, .ref 22, .builtin "ExceptionGroup.__weakref__", .none] }
noncomputable def hb26 (P : Params) : Obj := { cls := .ref 22, dict := some 20 }
noncomputable def hb27 (P : Params) : Obj := { cls := .none, data := .seq #[.int 11 0, .str { cps := #[6, 247, 8, 95, 95, 110, 97, 109, 101, 95, 95, 6, 246, 4, 95, 115, 114, 101, 6, 248, 7, 95, 95, 100, 111, 99, 95, 95, 0, 6, 250, 11, 95, 95, 112, 97, 99, 107, 97, 103, 101, 95, 95, 6, 249, 0, 6, 251, 10, 95, 95, 108, 111, 97, 100, 101, 114, 95, 95, 4, 0, 0, 14, 6, 252, 8, 95, 95, 115, 112, 101, 99, 95, 95, 4, 0, 0, 26, 6, 253, 7, 99, 111, 109, 112, 105, 108, 101, 9, 12, 95, 115, 114, 101, 46, 99, 111, 109, 112, 105, 108, 101, 6, 254, 8, 116, 101, 109, 112, 108, 97, 116, 101, 9, 13, 95, 115, 114, 101, 46, 116, 101, 109, 112, 108, 97, 116, 101, 6, 255, 11, 103, 101, 116, 99, 111, 100, 101, 115, 105, 122, 101, 9, 16, 95, 115, 114, 101, 46, 103, 101, 116, 99, 111, 100, 101, 115, 105, 122, 101, 6, 256, 13, 97, 115, 99, 105, 105, 95, 105, 115, 99, 97, 115, 101, 100, 9, 18, 95, 115, 114, 101, 46, 97, 115, 99, 105, 105, 95, 105, 115, 99, 97, 115, 101, 100, 6, 257, 15, 117, 110, 105, 99, 111, 100, 101, 95, 105, 115, 99, 97, 115, 101, 100, 9, 20, 95, 115, 114, 101, 46, 117, 110, 105, 99, 111, 100, 101, 95, 105, 115, 99, 97, 115, 101, 100, 6, 258, 13, 97, 115, 99, 105, 105, 95, 116, 111, 108, 111, 119, 101, 114, 9, 18, 95, 115, 114, 101, 46, 97, 115, 99, 105, 105, 95, 116, 111, 108, 111, 119, 101, 114, 6, 259, 15, 117, 110, 105, 99, 111, 100, 101, 95, 116, 111, 108, 111, 119, 101, 114, 9, 20, 95, 115, 114, 101, 46, 117, 110, 105, 99, 111, 100, 101, 95, 116, 111, 108, 111, 119, 101, 114, 6, 261, 5, 77, 65, 71, 73, 67, 4, 260, 0, 20230612, 6, 263, 8, 67, 79, 68, 69, 83, 73, 90, 69, 4, 262, 0, 4, 6, 265, 9, 77, 65, 88, 82, 69, 80, 69, 65, 84, 4, 264, 0, 4294967295, 6, 267, 9, 77, 65, 88, 71, 82, 79, 85, 80, 83, 4, 266, 0, 1073741823, 6, 269, 9, 99, 111, 112, 121, 114, 105, 103, 104, 116, 6, 268, 53, 32, 83, 82, 69, 32, 50, 46, 50, 46, 50, 32, 67, 111, 112, 121, 114, 105, 103, 104, 116, 32, 40, 99, 41, 32, 49, 57, 57, 55, 45, 50, 48, 48, 50, 32, 98, 121, 32, 83, 101, 99, 114, 101, 116, 32, 76, 97, 98, 115, 32, 65, 66, 32] } 0, .bool true, .bool false, .str "_sre" 271, .int 29 0, .str "\x06Ĩ\x08__name__\x06ħ\x0c_collections\x06ĩ\x07__doc__\t\x1f_collections.__doc__:str#opaque\x06ī\x0b__package__\x06Ī\x00\x06Ĭ\n__loader__\x04\x00\x00\x0e\x06ĭ\x08__spec__\x04\x00\x00!\x06Į\x0f_count_elements\t\x1c_collections._count_elements\x06į\x05deque\x08\x11collections.deque\x06İ\x0bdefaultdict\x08\x17collections.defaultdict\x06ı\x0f_deque_iterator\x08\x1bcollections._deque_iterator\x06Ĳ\x17_deque_reverse_iterator\x08#collections._deque_reverse_iterator\x06ĳ\x0c_tuplegetter\x08\x18collections._tuplegetter\x06Ĵ\x0bOrderedDict\x08\x17collections.OrderedDict" 0, .bool true, .bool false, .str "_collections" 310] 1 }
noncomputable def hb28 (P : Params) : Obj := { cls := .type "tuple", data := .seq #[.str "deque" 277] }
noncomputable def hb29 (P : Params) : Obj := { cls := .type "dict", data := .dict #[en P "__name__" 296 (.str "_collections" 295), en P "__doc__" 297 (.builtin "off-the-table:_collections.__doc__:shared#opaque"), en P "__package__" 299 (.str "" 298), en P "__loader__" 300 (.builtin "off-the-table:_collections.__loader__:shared#opaque"), en P "__spec__" 301 (.builtin "off-the-table:_collections.__spec__:shared#opaque"), en P "_count_elements" 302 (.builtin "_collections._count_elements"), en P "deque" 303 (.type "collections.deque"), en P "defaultdict" 304 (.type "collections.defaultdict"), en P "_deque_iterator" 305 (.builtin "off-the-table:_collections._deque_iterator:shared#opaque"), en P "_deque_reverse_iterator" 306 (.builtin "off-the-table:_collections._deque_reverse_iterator:shared#opaque"), en P "_tuplegetter" 307 (.type "collections._tuplegetter"), en P "OrderedDict" 308 (.type "collections.OrderedDict")] 12 }
noncomputable def hb30 (P : Params) : Obj := { cls := .type "module", dict := some 29 }
noncomputable def hb31 (P : Params) : Obj := { cls := .type "list", data := .seq #[] }
noncomputable def hb32 (P : Params) : Obj := { cls := .type "dict", data := .dict #[en P "name" 283 (.str "_collections" 282), en P "loader" 284 (.ref 14), en P "origin" 285 (.str "built-in" 281), en P "loader_state" 286 (.none), en P "submodule_search_locations" 287 (.none), en P "_uninitialized_submodules" 288 (.ref 31), en P "_set_fileattr" 289 (.bool false), en P "_cached" 290 (.none), en P "_initializing" 291 (.bool false)] 9 }
noncomputable def hb33 (P : Params) : Obj := { cls := .ref 22, dict := some 32 }
noncomputable def hb34 (P : Params) : Obj := { cls := .type "tuple", data := .seq #[] }
noncomputable def hb35 (P : Params) : Obj := { cls := .none, data := .fields #[] }
noncomputable def hb36 (P : Params) : Obj := { cls := .type "code", data := .fields #[.str "<module>" 319, .str "<module>" 320, .str "/claim/cut.py" 321, .int 1 0, .int 0 0, .int 0 0, .int 0 0, .int 0 0, .ref 34, .bool false, .int 318 0, .ref 35, .none, .none, .none, .none, .int 322 0, .int 1 0, .str "/claim/cut.py" 323] }
noncomputable def hb37 (P : Params) : Obj := { cls := .type "frame", slots := #[some (.ref 36), some (.ref 3), some (.ref 3), none, some (.str "__main__" 164), none, some (.ref 0)] }
noncomputable def hbs (P : Params) : List Obj := [hb0 P, hb1 P, hb2 P, hb3 P, hb4 P, hb5 P, hb6 P, hb7 P, hb8 P, hb9 P, hb10 P, hb11 P, hb12 P, hb13 P, hb14 P, hb15 P, hb16 P, hb17 P, hb18 P, hb19 P, hb20 P, hb21 P, hb22 P, hb23 P, hb24 P, hb25 P, hb26 P, hb27 P, hb28 P, hb29 P, hb30 P, hb31 P, hb32 P, hb33 P]
noncomputable def hbt (P : Params) : List Obj := [hb34 P, hb35 P, hb36 P, hb37 P]
noncomputable abbrev theRow : OpenRow := PySem.Challenge.rw_ny0433_01.row
noncomputable abbrev thePr : Program := theRow.toRowW.prog
noncomputable def qv : Program := view thePr [0,1,2,4,5,7,8,9,10,11,12,14,15,16,17,18,19,20,21,23,24,25,26,28,29,31,33,34,35,36,38,39,40,41,42,43,44]
noncomputable def looseL : List Str := ["_NodeInfo", "_twin_re_1", "UnsupportedOperation", "IOBase", "BufferedIOBase", "TextIOBase", "BytesIO", "StringIO", "join_path", "shlex", "split", "join_shlex", "_find_unsafe"]
noncomputable abbrev p00 : Pos := { line := 0, col := 0, endLine := 0, endCol := 0 }
noncomputable def topEnv : Env := { scope := thePr.main.scope, locals := mainNs, globals := mainNs, cells := [], code := .ref 36, frame := some 37 }
noncomputable abbrev topBody : List Stmt := behindTheImports thePr
noncomputable abbrev topCode : Code := .body topBody topEnv
noncomputable def hp0 (P : Params) : Heap := ⟨(hbs P).toArray, {}⟩
noncomputable def hp1 (P : Params) : Heap := ⟨(hbs P ++ hbt P).toArray, {}⟩
noncomputable def treeOf (l : List Obj) : BT := (l.zipIdx).foldl (fun t p => t.ins p.2 p.1) .nil
theorem head_open' (w : World) : ((PySem.W.Fast.tw10274390034422433532 PySem.W.Fast.tw14364793385576792824 (opening thePr) w 12472 (PySem.W.Fast.tw1435165496053646825 (opening thePr)).1 (PySem.W.Fast.tw1435165496053646825 (opening thePr)).2).bind (PySem.W.Fast.tw14289696077712309145 thePr)).map (fun s => (s.heap, s.gens, s.drawn, s.toks)) = some (hp0 w.params, #[], {}, 318) := by kernel_rfl
theorem head_open (w : World) : (fencedOpening treeTable thePr w 12472).map (fun s => (s.heap, s.gens, s.drawn, s.toks)) = some (hp0 w.params, #[], {}, 318) := by
  unfold fencedOpening
  rw [PySem.W.Fast.te10274390034422433532, PySem.W.Fast.te14364793385576792824, PySem.W.Fast.te1435165496053646825, PySem.W.Fast.te14289696077712309145]
  exact head_open' w
theorem head_size (w : World) : ((hp0 w.params).isNs mainGlobals && (#[] : Array GenState).size == 0, (hp0 w.params).objs.size, (hp0 w.params).nsMap mainGlobals "__annotations__") = (true, 34, some (.ref 6)) := by kernel_rfl
theorem head_pre (w : World) (os : OsState) : topGo treeTable thePr w 34 (some (.ref 6)) 12 ⟨hp0 w.params, #[], {}, 318, os⟩ (topStub thePr) = some (⟨hp1 w.params, #[], {}, 324, os⟩, ⟨denote treeTable topCode, topCode, p00, [topFrame p00]⟩) := by kernel_rfl
theorem head_block (w : World) (s : Shared) : segRun treeTable thePr w 34 (some (.ref 6)) 1 1 s (blockOf topBody topEnv topCode p00 [topFrame p00]) = some (.next, s, topCode, p00) := by kernel_rfl
theorem head_fin (w : World) (s : Shared) (c : Code) (q : Pos) : topRun treeTable thePr w 34 (some (.ref 6)) 2 s ⟨doneF .next, c, q, [topFrame p00]⟩ = some s := by kernel_rfl
theorem head_tree (w : World) : absHeap (treeOf (hbs w.params ++ hbt w.params)) 38 {} = hp1 w.params := by kernel_rfl
noncomputable abbrev HK : Hook := kHook KX addrsX addrs_ok
noncomputable def XtL (s : Shared) : Bool := xlAt qv [] s && recOk (RowW.records theRow.toRowW) s
noncomputable abbrev runL (w : World) (os : OsState) : Option (Flow × SharedT × Code × Pos) := segRunT treeTable thePr w 34 (some (.ref 6)) 1 6373 ⟨treeOf (hbs w.params ++ hbt w.params), 38, {}, #[], {}, 324, os⟩ (piecesOf topBody topEnv topCode p00 [topFrame p00])
noncomputable abbrev runQ (w : World) (os : OsState) : Option (Flow × SharedT × Code × Pos) := PySem.W.Fast.tw10110043849684766642 PySem.W.Fast.tw14364793385576792824 thePr w 34 (some (.ref 6)) 1 6373 ⟨treeOf (hbs w.params ++ hbt w.params), 38, {}, #[], {}, 324, os⟩ (piecesOf topBody topEnv topCode p00 [topFrame p00])
theorem runLQ (w : World) (os : OsState) : runL w os = runQ w os := by
  show segRunT treeTable _ _ _ _ _ _ _ _ = _
  rw [PySem.W.Fast.te10110043849684766642, PySem.W.Fast.te14364793385576792824]
theorem head_runA (w : World) (os : OsState) : (runQ w os).map (fun r => (r.1, r.2.1.n, r.2.2.1, addrsX.map fun a => (r.2.1.tree.get a).bind alive)) = some (.next, 928, topCode, HK.val w) := by kernel_rfl
theorem head_runB (w : World) (os : OsState) : (runQ w os).map (fun r => staticsOk (importedModules thePr.main.body) (hp0 w.params) r.2.1.abs.heap && namesBound thePr r.2.1.abs.heap && gensDone r.2.1.abs && laidKept (hp0 w.params) r.2.1.abs.heap) = some true := by kernel_rfl
theorem head_runC (w : World) (os : OsState) : (runQ w os).map (fun r => PySem.W.Fast.tw4187177175401517315 qv looseL (importedModules thePr.main.body) XtL true r.2.1.abs) = some (openGood qv looseL) := by kernel_rfl
theorem left_one {p q : Program} {loose : List Str} {Xt : Shared → Bool} {α : Type} {Yf : Shared → α} {Ya : World → α} {n1 M k N : Nat} {H₀ H₁ : Params → Heap} {d₀ d₁ : Drawn} {k₀ k₁ m₀ nT : Nat} {ann : Option Value} {T : Params → BT} {life : Life} {body : List Stmt} {env : Env} {pos qp : Pos}
    (open_ : ∀ w : World, (fencedOpening treeTable p w N).map (fun s => (s.heap, s.gens, s.drawn, s.toks)) = some (H₀ w.params, #[], d₀, k₀))
    (size : ∀ w : World, ((H₀ w.params).isNs mainGlobals && (#[] : Array GenState).size == 0, (H₀ w.params).objs.size, (H₀ w.params).nsMap mainGlobals "__annotations__") = (true, m₀, ann))
    (pre : ∀ (w : World) (os : OsState), topGo treeTable p w m₀ ann n1 ⟨H₀ w.params, #[], d₀, k₀, os⟩ (topStub p) = some (⟨H₁ w.params, #[], d₁, k₁, os⟩, ⟨denote treeTable (.body body env), .body body env, pos, [topFrame qp]⟩))
    (block : ∀ (w : World) (s : Shared), segRun treeTable p w m₀ ann 1 1 s (blockOf body env (.body body env) pos [topFrame qp]) = some (.next, s, .body body env, pos))
    (fin : ∀ (w : World) (s : Shared) (c : Code) (x : Pos), topRun treeTable p w m₀ ann 2 s ⟨doneF .next, c, x, [topFrame qp]⟩ = some s)
    (tree : ∀ w : World, absHeap (T w.params) nT life = H₁ w.params)
    (run : ∀ (w : World) (os : OsState), ∃ s' q', segRunT treeTable p w m₀ ann 1 M ⟨T w.params, nT, life, #[], d₁, k₁, os⟩ (piecesOf body env (.body body env) pos [topFrame qp]) = some (.next, s', .body body env, q') ∧
      (staticsOk (importedModules p.main.body) (H₀ w.params) s'.abs.heap && namesBound p s'.abs.heap && gensDone s'.abs && laidKept (H₀ w.params) s'.abs.heap) = true ∧ openSeen q loose (importedModules p.main.body) Xt true s'.abs = openGood q loose ∧ Yf s'.abs = Ya w)
    (le : n1 + (1 + (M + 2)) + k = N) : LeftO p q loose Xt Yf Ya N := fun w => by
  obtain ⟨⟨h, gs, d, k', os⟩, e, e'⟩ := Option.map_eq_some_iff.mp (open_ w)
  obtain ⟨rfl, e'⟩ := Prod.mk.inj e'
  obtain ⟨rfl, e'⟩ := Prod.mk.inj e'
  obtain ⟨rfl, rfl⟩ := Prod.mk.inj e'
  obtain ⟨z1, z2⟩ := Prod.mk.inj (size w)
  obtain ⟨z2, z3⟩ := Prod.mk.inj z2
  obtain ⟨s', q', hr, l1, l2, l3⟩ := run w os
  have hseg := segRun_of hr
  have r1 : topRun treeTable p w m₀ ann (M + 2) ⟨H₁ w.params, #[], d₁, k₁, os⟩ (restOf body env (.body body env) pos [topFrame qp]) = some s'.abs := by
    have x := piece_app (rest := []) hseg (piece_nil (fin w s'.abs _ q'))
    rw [List.append_nil] at x
    rw [← tree w]
    exact x
  have r3 := go_top (pre w os) (piece_block (block w _) r1)
  have r4 := topRun_mono k _ _ _ _ r3
  rw [le] at r4
  have t : topFrom treeTable p w N ⟨H₀ w.params, #[], d, k', os⟩ = some s'.abs := by
    unfold topFrom
    dsimp only
    rw [z1, z2, z3, r4]
    show (match staticsOk (importedModules p.main.body) (H₀ w.params) s'.abs.heap && namesBound p s'.abs.heap && gensDone s'.abs && laidKept (H₀ w.params) s'.abs.heap with | true => _ | false => _) = _
    rw [l1]
  unfold openEnds
  rw [e]
  show (topFrom treeTable p w N _).map _ = _
  rw [t]
  exact congrArg some (Prod.ext l2 l3)
theorem run_split {β : Type} {x : Option (Flow × SharedT × Code × Pos)} {l : List Addr} {f : Flow} {n : Nat} {c : Code} {ks : List (Option Obj)} {st : SharedT → Bool} {g : SharedT → β} {G : β}
    (a : x.map (fun r => (r.1, r.2.1.n, r.2.2.1, l.map fun a => (r.2.1.tree.get a).bind alive)) = some (f, n, c, ks)) (b : x.map (fun r => st r.2.1) = some true) (d : x.map (fun r => g r.2.1) = some G) :
    ∃ s' q', x = some (f, s', c, q') ∧ st s' = true ∧ g s' = G ∧ s'.n = n ∧ (l.map fun a => (s'.tree.get a).bind alive) = ks := by
  cases x with
  | none => cases a
  | some r =>
    obtain ⟨f', s', c', q'⟩ := r
    simp only [Option.map_some, Option.some.injEq, Prod.mk.injEq] at a
    obtain ⟨rfl, a1, rfl, a2⟩ := a
    exact ⟨s', q', rfl, Option.some.inj b, Option.some.inj d, a1, a2⟩
theorem obs_abs {t : BT} {n : Nat} {life : Life} : ∀ {l : List Addr} {ks : List (Option Obj)}, (∀ x ∈ ks, ∃ o, x = some o) → (∀ a ∈ l, a < n) → (l.map fun a => (t.get a).bind alive) = ks → l.map (absHeap t n life).get? = ks
  | [], [], _, _, _ => rfl
  | [], _ :: _, _, _, h => by cases h
  | _ :: _, [], _, _, h => by cases h
  | a :: l, k :: ks, hk, hl, h => by
    obtain ⟨h1, h2⟩ := List.cons.inj h
    obtain ⟨o, rfl⟩ := hk k (.head _)
    rw [List.map_cons, obs_abs (fun x hx => hk x (.tail _ hx)) (fun x hx => hl x (.tail _ hx)) h2]
    congr 1
    obtain ⟨o', g, ho⟩ := Option.bind_eq_some_iff.mp h1
    rw [abs_get (hl a (.head _)) g, ho]
theorem obs_sh {s : SharedT} {n : Nat} {l : List Addr} {ks : List (Addr × Obj)} (hn : s.n = n) (hl : ∀ a ∈ l, a < n) (h : (l.map fun a => (s.tree.get a).bind alive) = ks.map fun p => some p.2) : l.map s.abs.heap.get? = ks.map fun p => some p.2 := by
  subst hn
  exact obs_abs (fun x hx => by obtain ⟨p, _, rfl⟩ := List.mem_map.mp hx; exact ⟨_, rfl⟩) hl h
theorem addrs_low : ∀ a ∈ addrsX, a < 928 := by decide +kernel
theorem head_run (w : World) (os : OsState) : ∃ s' q', segRunT treeTable thePr w 34 (some (.ref 6)) 1 6373 ⟨treeOf (hbs w.params ++ hbt w.params), 38, {}, #[], {}, 324, os⟩ (piecesOf topBody topEnv topCode p00 [topFrame p00]) = some (.next, s', topCode, q') ∧
      (staticsOk (importedModules thePr.main.body) (hp0 w.params) s'.abs.heap && namesBound thePr s'.abs.heap && gensDone s'.abs && laidKept (hp0 w.params) s'.abs.heap) = true ∧ openSeen qv looseL (importedModules thePr.main.body) XtL true s'.abs = openGood qv looseL ∧ HK.obs s'.abs = HK.val w := by
  obtain ⟨s', q', h1, h2, h3, h4, h5⟩ := run_split (l := addrsX) (x := runQ w os) (f := .next) (n := 928) (c := topCode) (ks := HK.val w) (st := fun s => staticsOk (importedModules thePr.main.body) (hp0 w.params) s.abs.heap && namesBound thePr s.abs.heap && gensDone s.abs && laidKept (hp0 w.params) s.abs.heap) (g := fun s => PySem.W.Fast.tw4187177175401517315 qv looseL (importedModules thePr.main.body) XtL true s.abs) (G := openGood qv looseL) (head_runA w os) (head_runB w os) (head_runC w os)
  exact ⟨s', q', (runLQ w os).trans h1, h2, (congrFun (congrFun (congrFun (congrFun (congrFun (congrFun PySem.W.Fast.te4187177175401517315 qv) looseL) (importedModules thePr.main.body)) XtL) true) s'.abs).trans h3, obs_sh h4 addrs_low h5⟩
theorem head_left : LeftO thePr qv looseL XtL HK.obs HK.val 12472 := left_one (n1 := 12) (M := 6373) (k := 6084) (T := fun P => treeOf (hbs P ++ hbt P)) head_open head_size head_pre head_block head_fin head_tree head_run rfl
end
section
open PySem PySem.W PyProof.Rows PySem.Calls
section
noncomputable abbrev listO (xs : List Value) (n : Nat) : Obj := ⟨.type "list", none, .seq xs.toArray n, #[]⟩
noncomputable abbrev tupO (xs : List Value) (n : Nat) : Obj := ⟨.type "tuple", none, .seq xs.toArray n, #[]⟩
mutual
/-- the heap bears the datum at the value, by these addresses -/
inductive Rx (h : Heap) : List Addr → Value → PyData → Prop
  | none : Rx h [] .none .none
  | bool (b : Bool) : Rx h [] (.bool b) (.bool b)
  | int (i : Int) (t : Tok) : Rx h [] (.int i t) (.int i)
  | str (x : Str) (t : Tok) : Rx h [] (.str x t) (.str x)
  | list {a : Addr} {xs : List Value} {n : Nat} {ds : List PyData} {F : List Addr} : h.get? a = some (listO xs n) → RxAll h F xs ds → Rx h (a :: F) (.ref a) (.list ds)
  | tuple {a : Addr} {xs : List Value} {n : Nat} {ds : List PyData} {F : List Addr} : h.get? a = some (tupO xs n) → RxAll h F xs ds → Rx h (a :: F) (.ref a) (.tuple ds)
inductive RxAll (h : Heap) : List Addr → List Value → List PyData → Prop
  | nil : RxAll h [] [] []
  | cons {F H : List Addr} {v : Value} {vs : List Value} {d : PyData} {ds : List PyData} : Rx h F v d → RxAll h H vs ds → RxAll h (F ++ H) (v :: vs) (d :: ds)
end
section
variable {h h' : Heap}
theorem Rx.loc {F : List Addr} {v : Value} {d : PyData} (r : Rx h F v d) : (∀ a ∈ F, h'.get? a = h.get? a) → Rx h' F v d :=
  Rx.rec (motive_1 := fun F v d _ => (∀ a ∈ F, h'.get? a = h.get? a) → Rx h' F v d) (motive_2 := fun F v d _ => (∀ a ∈ F, h'.get? a = h.get? a) → RxAll h' F v d)
    (fun _ => .none) (fun b _ => .bool b) (fun i t _ => .int i t) (fun x t _ => .str x t) (fun e _ ih k => .list ((k _ (.head _)).trans e) (ih fun a ha => k a (.tail _ ha))) (fun e _ ih k => .tuple ((k _ (.head _)).trans e) (ih fun a ha => k a (.tail _ ha)))
    (fun _ => .nil) (fun _ _ i1 i2 k => .cons (i1 fun a ha => k a (List.mem_append_left _ ha)) (i2 fun a ha => k a (List.mem_append_right _ ha))) r
theorem RxAll.loc {F : List Addr} {v : List Value} {d : List PyData} (r : RxAll h F v d) : (∀ a ∈ F, h'.get? a = h.get? a) → RxAll h' F v d :=
  RxAll.rec (motive_1 := fun _ _ _ _ => True) (motive_2 := fun F v d _ => (∀ a ∈ F, h'.get? a = h.get? a) → RxAll h' F v d) trivial (fun _ => trivial) (fun _ _ => trivial) (fun _ _ => trivial) (fun _ _ _ => trivial) (fun _ _ _ => trivial)
    (fun _ => .nil) (fun r _ _ i2 k => .cons (r.loc fun a ha => k a (List.mem_append_left _ ha)) (i2 fun a ha => k a (List.mem_append_right _ ha))) r
theorem lt_cons {F : List Addr} {b : Addr} {o : Obj} (e : h.get? b = some o) (ih : ∀ a ∈ F, ∃ o, h.get? a = some o) : ∀ a ∈ b :: F, ∃ o, h.get? a = some o := fun a q => (List.mem_cons.mp q).elim (fun z => ⟨o, z ▸ e⟩) (ih a)
theorem Rx.lt {F : List Addr} {v : Value} {d : PyData} (r : Rx h F v d) : ∀ a ∈ F, ∃ o, h.get? a = some o :=
  Rx.rec (motive_1 := fun F _ _ _ => ∀ a ∈ F, ∃ o, h.get? a = some o) (motive_2 := fun F _ _ _ => ∀ a ∈ F, ∃ o, h.get? a = some o)
    (fun _ q => absurd q List.not_mem_nil) (fun _ _ q => absurd q List.not_mem_nil) (fun _ _ _ q => absurd q List.not_mem_nil) (fun _ _ _ q => absurd q List.not_mem_nil) (fun e _ ih => lt_cons e ih) (fun e _ ih => lt_cons e ih)
    (fun _ q => absurd q List.not_mem_nil) (fun _ _ i1 i2 a q => (List.mem_append.mp q).elim (i1 a) (i2 a)) r
theorem RxAll.lt {F : List Addr} {v : List Value} {d : List PyData} (r : RxAll h F v d) : ∀ a ∈ F, ∃ o, h.get? a = some o :=
  RxAll.rec (motive_1 := fun _ _ _ _ => True) (motive_2 := fun F _ _ _ => ∀ a ∈ F, ∃ o, h.get? a = some o) trivial (fun _ => trivial) (fun _ _ => trivial) (fun _ _ => trivial) (fun _ _ _ => trivial) (fun _ _ _ => trivial)
    (fun _ q => absurd q List.not_mem_nil) (fun r _ _ i2 a q => (List.mem_append.mp q).elim (r.lt a) (i2 a)) r
theorem Rx.reads {F : List Addr} {v : Value} {d : PyData} (r : Rx h F v d) : ∃ as, Reads h v d as :=
  Rx.rec (motive_1 := fun _ v d _ => ∃ as, Reads h v d as) (motive_2 := fun _ v d _ => ∃ as, ReadsAll h v d as)
    ⟨_, .none⟩ (fun b => ⟨_, .bool b⟩) (fun i t => ⟨_, .int i t⟩) (fun x t => ⟨_, .str x t⟩) (fun e _ ih => ih.elim fun _ z => ⟨_, .list e rfl rfl z⟩) (fun e _ ih => ih.elim fun _ z => ⟨_, .tuple e rfl rfl z⟩)
    ⟨_, .nil⟩ (fun _ _ i1 i2 => i1.elim fun _ z => i2.elim fun _ y => ⟨_, .cons z y⟩) r
theorem RxAll.reads {F : List Addr} {v : List Value} {d : List PyData} (r : RxAll h F v d) : ∃ as, ReadsAll h v d as :=
  RxAll.rec (motive_1 := fun _ _ _ _ => True) (motive_2 := fun _ v d _ => ∃ as, ReadsAll h v d as) trivial (fun _ => trivial) (fun _ _ => trivial) (fun _ _ => trivial) (fun _ _ _ => trivial) (fun _ _ _ => trivial)
    ⟨_, .nil⟩ (fun r _ _ i2 => r.reads.elim fun _ z => i2.elim fun _ y => ⟨_, .cons z y⟩) r
theorem RxAll.append {F H : List Addr} {v u : List Value} {d e : List PyData} (a : RxAll h F v d) (r : RxAll h H u e) : RxAll h (F ++ H) (v ++ u) (d ++ e) :=
  RxAll.rec (motive_1 := fun _ _ _ _ => True) (motive_2 := fun F v d _ => RxAll h (F ++ H) (v ++ u) (d ++ e)) trivial (fun _ => trivial) (fun _ _ => trivial) (fun _ _ => trivial) (fun _ _ _ => trivial) (fun _ _ _ => trivial)
    r (fun {F G v vs d ds} a _ _ ih => (List.append_assoc F G H).symm ▸ RxAll.cons a ih) a
theorem RxAll.length {F : List Addr} {v : List Value} {d : List PyData} (r : RxAll h F v d) : v.length = d.length :=
  RxAll.rec (motive_1 := fun _ _ _ _ => True) (motive_2 := fun _ v d _ => v.length = d.length) trivial (fun _ => trivial) (fun _ _ => trivial) (fun _ _ => trivial) (fun _ _ _ => trivial) (fun _ _ _ => trivial)
    rfl (fun _ _ _ ih => congrArg (· + 1) ih) r
theorem RxAll.get {F : List Addr} {vs : List Value} {ds : List PyData} (r : RxAll h F vs ds) : ∀ {i : Nat} {v : Value}, vs[i]? = some v → ∃ d H, ds[i]? = some d ∧ Rx h H v d ∧ ∀ a ∈ H, a ∈ F :=
  RxAll.rec (motive_1 := fun _ _ _ _ => True) (motive_2 := fun F vs ds _ => ∀ {i : Nat} {v : Value}, vs[i]? = some v → ∃ d H, ds[i]? = some d ∧ Rx h H v d ∧ ∀ a ∈ H, a ∈ F) trivial (fun _ => trivial) (fun _ _ => trivial) (fun _ _ => trivial) (fun _ _ _ => trivial) (fun _ _ _ => trivial)
    (fun {i v} e => absurd e (by simp)) (fun {F G v vs d ds} r _ _ ih {i u} e => by
      cases i with
      | zero => exact ⟨d, F, rfl, by rw [List.getElem?_cons_zero] at e; rw [← Option.some.inj e]; exact r, fun a ha => List.mem_append_left _ ha⟩
      | succ i =>
        rw [List.getElem?_cons_succ] at e
        obtain ⟨d', H, q1, q2, q3⟩ := ih e
        exact ⟨d', H, q1, q2, fun a ha => List.mem_append_right _ (q3 a ha)⟩) r
end
theorem RxAll.one {h : Heap} {F : List Addr} {v : Value} {d : PyData} (r : Rx h F v d) : RxAll h F [v] [d] := by
  have := RxAll.cons r .nil; rwa [List.append_nil] at this
theorem RxAll.getD {h : Heap} {F : List Addr} {vs : List Value} {ds : List PyData} (r : RxAll h F vs ds) {i : Nat} {d : PyData} (e : ds[i]? = some d) : ∃ v H, vs[i]? = some v ∧ Rx h H v d ∧ ∀ a ∈ H, a ∈ F := by
  have hl : i < vs.length := by rw [r.length]; exact (List.getElem?_eq_some_iff.mp e).1
  obtain ⟨d', H, q1, q2, q3⟩ := r.get (List.getElem?_eq_getElem hl)
  rw [e] at q1; cases q1
  exact ⟨_, H, List.getElem?_eq_getElem hl, q2, q3⟩
/-- texts -/
inductive Strs : List Value → List Str → Prop
  | nil : Strs [] []
  | cons {x : Str} {t : Tok} {vs : List Value} {xs : List Str} : Strs vs xs → Strs (.str x t :: vs) (x :: xs)
theorem Strs.rx {h : Heap} {vs : List Value} {xs : List Str} (s : Strs vs xs) : RxAll h [] vs (xs.map .str) := by
  induction s with
  | nil => exact .nil
  | cons _ ih => exact .cons (F := []) (.str _ _) ih
theorem Strs.of_rx {h : Heap} {F : List Addr} {vs : List Value} {ds : List PyData} (r : RxAll h F vs ds) : ∀ xs : List Str, ds = xs.map .str → Strs vs xs ∧ F = [] := by
  induction vs generalizing F ds with
  | nil => intro xs e; cases r with | nil => cases xs with | nil => exact ⟨.nil, rfl⟩ | cons => cases e
  | cons v vs ih =>
    intro xs e
    cases r with
    | cons r rs =>
      cases xs with
      | nil => cases e
      | cons x xs =>
        injection e with e1 e2
        subst e1
        obtain ⟨q1, q2⟩ := ih rs xs e2
        cases r
        exact ⟨.cons q1, by rw [q2]; rfl⟩
theorem Strs.length {vs : List Value} {xs : List Str} (s : Strs vs xs) : vs.length = xs.length := by induction s with | nil => rfl | cons _ ih => exact congrArg (· + 1) ih
theorem Strs.append {vs us : List Value} {xs ys : List Str} (s : Strs vs xs) (r : Strs us ys) : Strs (vs ++ us) (xs ++ ys) := by induction s with | nil => exact r | cons _ ih => exact .cons ih
theorem Strs.get {vs : List Value} {xs : List Str} (s : Strs vs xs) : ∀ {i : Nat} {v : Value}, vs[i]? = some v → ∃ x t, xs[i]? = some x ∧ v = .str x t := by
  induction s with
  | nil => intro i v e; simp at e
  | @cons x t vs xs _ ih =>
    intro i v e
    cases i with
    | zero => simp only [List.getElem?_cons_zero, Option.some.injEq] at e; exact ⟨x, t, rfl, e.symm⟩
    | succ i => simp only [List.getElem?_cons_succ] at e ⊢; exact ih e
theorem Strs.getD {vs : List Value} {xs : List Str} (s : Strs vs xs) {i : Nat} {x : Str} (e : xs[i]? = some x) : ∃ t, vs[i]? = some (.str x t) := by
  have hl : i < vs.length := by rw [s.length]; exact (List.getElem?_eq_some_iff.mp e).1
  obtain ⟨x', t, q1, q2⟩ := s.get (List.getElem?_eq_getElem hl)
  rw [e] at q1; cases q1
  exact ⟨t, (List.getElem?_eq_getElem hl).trans (by rw [q2])⟩
/-- a datum that is owned -/
noncomputable def DAT (v : Value) (d : PyData) (F : List Addr) : HP where
  foot := F
  ok h := F.Nodup ∧ Rx h F v d
  loc e := fun ⟨n, r⟩ => ⟨n, r.loc e⟩
  lt := fun ⟨_, r⟩ => r.lt
/-- a list with its items -/
noncomputable def LSX (a : Addr) (xs : List Value) (ds : List PyData) (F : List Addr) : HP where
  foot := a :: F
  ok h := (a :: F).Nodup ∧ (∃ n, h.get? a = some (listO xs n)) ∧ RxAll h F xs ds
  loc e := fun ⟨n, ⟨k, q⟩, r⟩ => ⟨n, ⟨k, (e _ (.head _)).trans q⟩, r.loc fun a ha => e a (.tail _ ha)⟩
  lt := fun ⟨_, ⟨k, q⟩, r⟩ b hb => by
    cases hb with
    | head => exact ⟨_, q⟩
    | tail _ hb => exact r.lt b hb
theorem LSX.dat {a : Addr} {xs : List Value} {ds : List PyData} {F : List Addr} {h : Heap} (x : (LSX a xs ds F).ok h) : (DAT (.ref a) (.list ds) (a :: F)).ok h := ⟨x.1, let ⟨_, q⟩ := x.2.1; .list q x.2.2⟩
theorem DAT.lsx {v : Value} {ds : List PyData} {F : List Addr} {h : Heap} (x : (DAT v (.list ds) F).ok h) : ∃ a xs H, v = .ref a ∧ F = a :: H ∧ (LSX a xs ds H).ok h := by
  obtain ⟨n, r⟩ := x
  cases r with
  | list e r => exact ⟨_, _, _, rfl, rfl, n, ⟨_, e⟩, r⟩
/-- the same part said otherwise -/
theorem Sit.turn {fm : Fm} {vs : Vals} {c c' : HP} {cs : List HP} {s : Shared} (S : Sit fm vs (c :: cs) s) (hf : ∀ a ∈ c'.foot, a ∈ c.foot) (h : c'.ok s.heap) : Sit fm vs (c' :: cs) s := by
  have ap := List.pairwise_cons.mp S.apart
  obtain ⟨p1, p2, p3⟩ := S.own c (.head _)
  refine ⟨S.fok, S.gens, S.os, S.ext, S.frs, S.loc, fun d q => ?_, List.pairwise_cons.mpr ⟨fun d q x hx => ap.1 d q x (hf x hx), ap.2⟩⟩
  cases q with
  | head => exact ⟨h, fun a ha => p2 a (hf a ha), fun z => p3 (hf _ z)⟩
  | tail _ q => exact S.own d (.tail _ q)
section
variable {α : Type} {w : World} {A : Around} {fm : Fm} {vs : Vals} {cs : List HP} {E : Value → Vals → List HP → Prop} {t : Sem α} {Q : α → Vals → List HP → Prop}
theorem G_turn {c : HP} (c' : HP) (hf : ∀ a ∈ c'.foot, a ∈ c.foot) (hc : ∀ h, c.ok h → c'.ok h) (h : G w A fm t Q E vs (c' :: cs)) : G w A fm t Q E vs (c :: cs) := fun s S => h s (S.turn hf (hc _ (S.own c (.head _)).1))
theorem G_open {v : Value} {ds : List PyData} {F : List Addr} (h : ∀ a xs H, v = .ref a → F = a :: H → G w A fm t Q E vs (LSX a xs ds H :: cs)) : G w A fm t Q E vs (DAT v (.list ds) F :: cs) := fun s S => by
  obtain ⟨a, xs, H, e1, e2, o⟩ := DAT.lsx (S.own _ (.head _)).1
  exact h a xs H e1 e2 s (S.turn (fun x hx => by rw [e2]; exact hx) o)
theorem G_shut {a : Addr} {xs : List Value} {ds : List PyData} {F : List Addr} (h : G w A fm t Q E vs (DAT (.ref a) (.list ds) (a :: F) :: cs)) : G w A fm t Q E vs (LSX a xs ds F :: cs) :=
  G_turn (DAT (.ref a) (.list ds) (a :: F)) (fun _ q => q) (fun _ o => LSX.dat o) h
end
end
end
section
open PySem PySem.W PyProof.Rows PySem.Calls
section
noncomputable abbrev NoE : Value → Vals → List HP → Prop := fun _ _ _ => False
theorem Sit.updK {fm : Fm} {vs : Vals} {c c' : HP} {cs : List HP} {s : Shared} (S : Sit fm vs (c :: cs) s) {I : Addr} {h' : Heap} {t : Nat} (hc : c.foot = [I]) (hc' : c'.foot = [I]) (hk : ∀ b o, b ≠ I → s.heap.get? b = some o → h'.get? b = some o) (ho : c'.ok h') :
    Sit fm vs (c' :: cs) { s with heap := h', toks := t } := by
  obtain ⟨m, n, ag⟩ := S.loc
  obtain ⟨p1, p2, p3⟩ := S.own c (.head _)
  rw [hc] at p2 p3
  have ap := List.pairwise_cons.mp S.apart
  have hI : I ∈ [I] := .head _
  refine ⟨S.fok, S.gens, S.os, fun x o e q q' => ?_, S.frsOf fun x o hx _ e => hk x o (fun z => (S.frOff (.head _) (by rw [hc]; exact hI)).1 (z ▸ hx)) e, ⟨m, ?_, ag⟩, fun d q => ?_, ?_⟩
  · refine hk x o (fun z => ?_) (S.ext x o e q q')
    subst z
    exact (p2 x hI).elim (fun z => q z) fun z => absurd (Heap.lt_size e) (Nat.not_lt.mpr z)
  · obtain ⟨o, es, ep, ho, r⟩ := n
    exact ⟨o, es, ep, hk _ _ (fun z => p3 (z ▸ hI)) ho, r⟩
  · cases q with
    | head => exact ⟨ho, by rw [hc']; exact p2, by rw [hc']; exact p3⟩
    | tail _ q =>
      obtain ⟨q1, q2, q3⟩ := S.own d (.tail _ q)
      refine ⟨d.loc (fun x hx => ?_) q1, q2, q3⟩
      obtain ⟨o, e⟩ := d.lt q1 x hx
      rw [e]
      exact hk _ _ (fun z => ap.1 d q I (by rw [hc]; exact hI) (z ▸ hx)) e
  · exact List.pairwise_cons.mpr ⟨fun d q x hx => ap.1 d q x (by rw [hc]; rw [hc'] at hx; exact hx), ap.2⟩
theorem Sit.updL {fm : Fm} {vs : Vals} {c c' : HP} {cs : List HP} {s : Shared} (S : Sit fm vs (cs ++ [c]) s) {I : Addr} {h' : Heap} {t : Nat} (hc : c.foot = [I]) (hc' : c'.foot = [I]) (hk : ∀ b o, b ≠ I → s.heap.get? b = some o → h'.get? b = some o) (ho : c'.ok h') :
    Sit fm vs (cs ++ [c']) { s with heap := h', toks := t } :=
  ((S.perm (cs' := [c] ++ cs) List.perm_append_comm).updK hc hc' hk ho).perm (cs := [c'] ++ cs) List.perm_append_comm
/-- an iterator: its part after i steps, what it walks over -/
structure Itr (w : World) (A : Around) (I : Addr) (n : Nat) (P : Nat → Value → Prop) (R : Nat → HP) (U : Heap → Prop) : Prop where
  foot : ∀ i, (R i).foot = [I]
  item : ∀ i (s : Shared) (Q : Option Value → Shared → Prop) (E : Value → Shared → Prop), i < n → (R i).ok s.heap → U s.heap →
    (∀ v h' tk, P i v → (R (i + 1)).ok h' → (∀ b o, b ≠ I → s.heap.get? b = some o → h'.get? b = some o) → Q (some v) { s with heap := h', toks := tk }) → wpAny (MD w) A (pyNext (.ref I)) Q E s
  done : ∀ (s : Shared) (Q : Option Value → Shared → Prop) (E : Value → Shared → Prop), (R n).ok s.heap → U s.heap →
    (∀ h' tk, (∀ b o, b ≠ I → s.heap.get? b = some o → h'.get? b = some o) → Q none { s with heap := h', toks := tk }) → wpAny (MD w) A (pyNext (.ref I)) Q E s
  self : ∀ i (s : Shared) (Q : Value → Shared → Prop) (E : Value → Shared → Prop), (R i).ok s.heap → U s.heap → Q (.ref I) s → wpAny (MD w) A (pyIter (.ref I)) Q E s
  goes : ∀ i (s : Shared) (target : Expr) (v : Value) (Q : Unit → Shared → Prop) (E : Value → Shared → Prop), (R i).ok s.heap → Q () s → wpAny (MD w) A (letOwnedTupleGo target (.ref I) v) Q E s
noncomputable def ITL (I a : Addr) (i : Nat) : HP where
  foot := [I]
  ok h := h.IsListIter I a i
  loc e := fun ⟨o, ho, r⟩ => ⟨o, (e _ (.head _)).trans ho, r⟩
  lt := fun ⟨o, ho, r⟩ b hb => by cases List.mem_singleton.mp hb; exact ⟨o, ho⟩
theorem goes_plain {w : World} {A : Around} {I : Addr} {s : Shared} {o : Obj} {T : String} (ho : s.heap.get? I = some o) (hc : o.cls = .type T)
    (hT : ["enumerate", "zip", "dict_itemiterator", "dict_reverseitemiterator", "odict_iterator", "itertools.zip_longest", "itertools.pairwise"].contains T = false) (target : Expr) (v : Value) {Q : Unit → Shared → Prop} {E : Value → Shared → Prop} (h : Q () s) :
    wpAny (MD w) A (letOwnedTupleGo target (.ref I) v) Q E s := by
  have body : wpAny (MD w) A (do
      let (.ref r, .ref a) := ((.ref I : Value), v) | return
      let o ← load r
      match o.cls, o.data with
      | .type n, .fields vs =>
        if ["enumerate", "zip", "dict_itemiterator", "dict_reverseitemiterator", "odict_iterator", "itertools.zip_longest", "itertools.pairwise"].contains n && vs[0]? == some (rawInt a) then
          rule "for.unpacks-the-owned-tuple"
          updateField r 0 .none
      | _, _ => pure ()) Q E s := by
    cases v with
    | ref a =>
      refine wpAny_bind (wpAny_load ho ?_)
      rw [hc]
      cases o.data <;> first | exact wpAny_pure h | (dsimp only; rw [hT, Bool.false_and, if_neg (by decide)]; exact wpAny_pure h)
    | _ => exact wpAny_pure h
  cases target <;> first | exact wpAny_pure h | exact body
theorem Itr.list {w : World} {A : Around} (hh : A.handled = none) (I a : Addr) (hne : a ≠ I) (xs : List Value) : Itr w A I xs.length (fun i v => xs[i]? = some v) (ITL I a) (fun h => h.IsList a xs.toArray) := by
  have W := Walks.list (prog := PySem.Challenge.pw_ny0433_01) (w := w) hh I a hne xs.toArray
  refine ⟨fun _ => rfl, fun i s Q E hi r u k => ?_, fun s Q E r u k => ?_, fun i s Q E r u k => W.self i s Q E ⟨r, u⟩ k, fun i s target v Q E r k => ?_⟩
  · exact W.item i s Q E (by simpa using hi) ⟨r, u⟩ fun v h' tk p st kp => k v h' tk (by simpa using p) st.1 fun b o hb e => kp b o (fun q => hb (List.mem_singleton.mp q)) e
  · exact W.done s Q E (by rw [List.size_toArray]; exact ⟨r, u⟩) fun h' tk kp => k h' tk fun b o hb e => kp b o (fun q => hb (List.mem_singleton.mp q)) e
  · obtain ⟨o, ho, hc, _⟩ := r
    exact goes_plain ho hc (by decide) target v k
/-- the end of a turn: the iterator's part as it was -/
noncomputable def TurnE (J : Nat → Vals → List HP → Prop) (Q : Flow → Vals → List HP → Prop) (i : Nat) (vs : Vals) (cs₁ : List HP) : Flow → Prop
  | .next | .cont => J (i + 1) vs cs₁
  | .brk => Q .next vs cs₁
  | .ret v => Q (.ret v) vs cs₁
inductive Turn (J : Nat → Vals → List HP → Prop) (Q : Flow → Vals → List HP → Prop) (i : Nat) (X : HP) (fl : Flow) (vs : Vals) (cs : List HP) : Prop | mk (cs₁ : List HP) (p : (cs₁ ++ [X]).Perm cs) (h : TurnE J Q i vs cs₁ fl) : Turn J Q i X fl vs cs
section
variable {J : Nat → Vals → List HP → Prop} {Q : Flow → Vals → List HP → Prop} {i : Nat} {X c d e : HP} {vs : Vals}
theorem Turn.n0 (h : J (i + 1) vs []) : Turn J Q i X .next vs [X] := ⟨[], .refl _, h⟩
theorem Turn.n1 (h : J (i + 1) vs [c]) : Turn J Q i X .next vs [c, X] := ⟨[c], .refl _, h⟩
theorem Turn.n2 (h : J (i + 1) vs [c, d]) : Turn J Q i X .next vs [c, d, X] := ⟨[c, d], .refl _, h⟩
theorem Turn.n3 (h : J (i + 1) vs [c, d, e]) : Turn J Q i X .next vs [c, d, e, X] := ⟨[c, d, e], .refl _, h⟩
end
section
variable {w : World} {A : Around} {fm : Fm} {vs : Vals} {cs : List HP} {E : Value → Vals → List HP → Prop} {Q : Flow → Vals → List HP → Prop}
theorem for_core {I : Addr} {n : Nat} {P : Nat → Value → Prop} {R : Nat → HP} {U : Heap → Prop} {target : Expr} {body : List Stmt} {s : Shared} (itr : Itr w A I n P R U) (J : Nat → Vals → List HP → Prop)
    (hU : ∀ i vs cs s, J i vs cs → Sit fm vs cs s → U s.heap) (S : Sit fm vs (cs ++ [R 0]) s) (h0 : J 0 vs cs)
    (turn : ∀ i v vs cs X, i < n → P i v → J i vs cs → G w A fm (assign target fm.env v) (fun _ vs cs => G w A fm (execs body fm.env) (Turn J Q i X) NoE vs cs) NoE vs (cs ++ [X]))
    (done : ∀ vs cs, J n vs cs → Q .next vs cs) :
    codeAny (MD w) A (.forLoop target (.ref I) body [] fm.env) (fun r s' => match r with | .ok f => At fm (Q f) s' | .error _ => False) s := by
  refine codeAny_forLoop_any (fun k s' => ∃ i vs cs, k = n - i ∧ i ≤ n ∧ J i vs cs ∧ Sit fm vs (cs ++ [R i]) s') ?_ (n - 0) ⟨0, vs, cs, rfl, Nat.zero_le _, h0, S⟩
  rintro k s' ⟨i, vs, cs, rfl, hi, hJ, S⟩
  have hr : (R i).ok s'.heap := (S.own _ (List.mem_append_right _ (.head _))).1
  have hu : U s'.heap := hU i vs cs s' hJ (S.sub (List.sublist_append_left _ _))
  rcases Nat.lt_or_ge i n with hlt | hge
  · refine itr.item i s' _ _ hlt hr hu fun v h' tk p r' kp => ?_
    have S' := S.updL (t := tk) (itr.foot i) (itr.foot (i + 1)) kp r'
    dsimp only
    refine itr.goes (i + 1) _ target v _ _ r' ?_
    refine wpAny_mono (turn i v vs cs (R (i + 1)) hlt p hJ _ S') (fun _ s₁ x => ?_) fun _ _ ⟨_, _, _, z⟩ => z.elim
    obtain ⟨vs₁, cs₁, S₁, g⟩ := x
    refine wpAny_mono (g s₁ S₁) (fun fl s₂ x => ?_) fun _ _ ⟨_, _, _, z⟩ => z.elim
    obtain ⟨vs₂, cs₂, S₂, cs₃, pm, q⟩ := x
    cases fl with
    | next => exact ⟨n - (i + 1), by omega, i + 1, vs₂, cs₃, rfl, hlt, q, S₂.perm pm⟩
    | cont => exact ⟨n - (i + 1), by omega, i + 1, vs₂, cs₃, rfl, hlt, q, S₂.perm pm⟩
    | brk => exact ⟨vs₂, cs₃, (S₂.perm pm).sub (List.sublist_append_left _ _), q⟩
    | ret v => exact ⟨vs₂, cs₃, (S₂.perm pm).sub (List.sublist_append_left _ _), q⟩
  · have : i = n := Nat.le_antisymm hi hge
    subst this
    refine itr.done s' _ _ hr hu fun h' tk kp => ?_
    dsimp only
    have S' : Sit fm vs cs { s' with heap := h', toks := tk } := by
      obtain ⟨m, ns, ag⟩ := S.loc
      have own := fun c (hc : c ∈ cs) => S.own c (List.mem_append_left _ hc)
      obtain ⟨p1, p2, p3⟩ := S.own (R i) (List.mem_append_right _ (.head _))
      rw [itr.foot] at p2 p3
      have ap := List.pairwise_append.mp S.apart
      refine ⟨S.fok, S.gens, S.os, fun x o e q q' => ?_, S.frsOf fun x o hx _ e => kp x o (fun z => (S.frOff (c := R i) (List.mem_append_right _ (.head _)) (by rw [itr.foot]; exact .head _)).1 (z ▸ hx)) e, ⟨m, ?_, ag⟩, fun d q => ?_, ap.1⟩
      · refine kp x o (fun z => ?_) (S.ext x o e q q')
        subst z
        exact (p2 x (.head _)).elim (fun z => q z) fun z => absurd (Heap.lt_size e) (Nat.not_lt.mpr z)
      · obtain ⟨o, es, ep, ho, r⟩ := ns
        exact ⟨o, es, ep, kp _ _ (fun z => p3 (z ▸ .head _)) ho, r⟩
      · obtain ⟨q1, q2, q3⟩ := own d q
        refine ⟨d.loc (fun x hx => ?_) q1, q2, q3⟩
        obtain ⟨o, e⟩ := d.lt q1 x hx
        rw [e]
        exact kp _ _ (fun z => ap.2.2 d q (R i) (.head _) x hx (by rw [itr.foot, z]; exact .head _)) e
    exact wpAny_execs_nil ⟨vs, cs, S', done vs cs hJ⟩
/-- a for over a list -/
theorem G_ForL {target iter : Expr} {body : List Stmt} {p : Pos} (hA : A.handled = none)
    (h : G w A fm (eval iter fm.env) (fun x vs cs => E3 fun a xs J => A5 (x = .ref a) (J 0 vs cs) (∀ i vs cs s, J i vs cs → Sit fm vs cs s → s.heap.IsList a (List.toArray xs))
      (∀ i v vs cs X, xs[i]? = some v → J i vs cs → G w A fm (assign target fm.env v) (fun _ vs cs => G w A fm (execs body fm.env) (Turn J Q i X) NoE vs cs) NoE vs (cs ++ [X]))
      (∀ vs cs, J xs.length vs cs → Q .next vs cs)) E vs cs)
    (hs : ∀ x, foldedSetIterable iter fm.env x = pure x := by intro _; rfl) : G w A fm (exec (.For target iter body [] p) fm.env) Q E vs cs := fun s S => by
  refine wpAny_For (wpAny_mono (h s S) (fun x s₁ y => ?_) fun _ _ x => x) hs
  obtain ⟨vs₁, cs₁, S₁, a, xs, J, rfl, j0, hl, turn, done⟩ := y
  have il := hl 0 vs₁ cs₁ s₁ j0 S₁
  refine wpAny_pyIter_list il ?_
  have S₂ : Sit fm vs₁ (cs₁ ++ [ITL s₁.heap.objs.size a 0]) { s₁ with heap := s₁.heap.push { cls := .type "list_iterator", data := .fields #[.ref a, .int 0 0] } } :=
    (S₁.grow1 (c := ITL s₁.heap.objs.size a 0) (t := s₁.toks) (fun _ _ e => Heap.get?_push_of_some _ e) ⟨_, Heap.get?_push_size _ rfl, rfl, rfl⟩ (fun b hb => by cases List.mem_singleton.mp hb; exact Nat.le_refl _)).perm (cs := [ITL s₁.heap.objs.size a 0] ++ cs₁) List.perm_append_comm
  have hne : a ≠ s₁.heap.objs.size := by obtain ⟨o, ho, _⟩ := il; exact Nat.ne_of_lt (Heap.lt_size ho)
  refine codeAny_mono (for_core (Itr.list hA s₁.heap.objs.size a hne xs) J hl S₂ j0 (fun i v vs cs X hi hp => turn i v vs cs X hp) done) fun r s' y => ?_
  cases r with
  | ok f => exact y
  | error e => exact y.elim
theorem G_aName {x : Str} {p : Pos} {v : Value} {vs' : Vals} {Q : Unit → Vals → List HP → Prop} (g : Put fm.ns vs x v vs') (h : Q () vs' cs) : G w A fm (assign (.Name x p) fm.env v) Q E vs cs := fun s S => wpAny_assign_Name (G_store g h s S)
/-- the end of a turn of a while -/
noncomputable abbrev WTurn (J : Nat → Vals → List HP → Prop) (Q : Flow → Vals → List HP → Prop) (n : Nat) (fl : Flow) (vs : Vals) (cs : List HP) : Prop := match fl with
  | .next | .cont => ∃ m, m < n ∧ J m vs cs
  | .brk => Q .next vs cs
  | .ret v => Q (.ret v) vs cs
/-- a while by an invariant and a measure -/
theorem G_While {test : Expr} {body orelse : List Stmt} {p : Pos} (J : Nat → Vals → List HP → Prop) {n : Nat} (h0 : J n vs cs)
    (turn : ∀ n vs cs, J n vs cs → G w A fm (isTrue test fm.env (eval test fm.env)) (fun b vs cs => bif b then G w A fm (execs body fm.env) (WTurn J Q n) NoE vs cs else G w A fm (execs orelse fm.env) Q NoE vs cs) NoE vs cs) :
    G w A fm (exec (.While test body orelse p) fm.env) Q E vs cs := fun s S => by
  refine wpAny_While (codeAny_whileLoop (fun n s' => ∃ vs cs, J n vs cs ∧ Sit fm vs cs s') ?_ n ⟨vs, cs, h0, S⟩)
  rintro n s' ⟨vs, cs, j, S⟩
  refine wpAny_mono (turn n vs cs j s' S) (fun b s₁ x => ?_) fun _ _ ⟨_, _, _, z⟩ => z.elim
  obtain ⟨vs₁, cs₁, S₁, g⟩ := x
  cases b with
  | false =>
    rw [if_neg (by decide)]
    refine wpAny_mono (g s₁ S₁) (fun fl s₂ x => ?_) fun _ _ ⟨_, _, _, z⟩ => z.elim
    exact x
  | true =>
    rw [if_pos rfl]
    refine wpAny_mono (g s₁ S₁) (fun fl s₂ x => ?_) fun _ _ ⟨_, _, _, z⟩ => z.elim
    obtain ⟨vs₂, cs₂, S₂, q⟩ := x
    cases fl with
    | next => obtain ⟨m, hm, q⟩ := q; exact ⟨m, hm, vs₂, cs₂, q, S₂⟩
    | cont => obtain ⟨m, hm, q⟩ := q; exact ⟨m, hm, vs₂, cs₂, q, S₂⟩
    | brk => exact ⟨vs₂, cs₂, S₂, q⟩
    | ret v => exact ⟨vs₂, cs₂, S₂, q⟩
end
end
end
section
open PySem PySem.W PyProof.Rows PySem.Calls
section
theorem Strs.are {vs : List Value} {xs : List Str} (s : Strs vs xs) : StrsAre vs xs := by induction s with | nil => exact .nil | cons _ ih => exact .cons _ _ ih
theorem Strs.of_are {vs : List Value} {xs : List Str} (s : StrsAre vs xs) : Strs vs xs := by induction s with | nil => exact .nil | cons _ _ _ ih => exact .cons ih
/-- one address of the parts has changed -/
theorem Stp.upd {gp : GP} {fr : List Addr} {cs₀ cs₁ : List HP} {s : Shared} {h' : Heap} {t : Nat} {a : Addr} (ha : a ∈ feet cs₀) (hs : Heap.SameBut a s.heap h') (hc : ∀ c ∈ cs₁, c.ok h' ∧ ∀ x ∈ c.foot, x ∈ feet cs₀) (ap : cs₁.Pairwise Apart) : Stp gp (feet cs₀) fr cs₁ s { s with heap := h', toks := t } :=
  ⟨id, rfl, fun b o e q _ => (hs.2 b fun z => q (z ▸ ha)).trans e, fun b o e _ q => ⟨o.slots, (hs.2 b fun z => q (z ▸ ha)).trans e⟩, fun c hcm => ⟨(hc c hcm).1, fun x hx => .inl ((hc c hcm).2 x hx)⟩, ap⟩
/-- the heap has grown -/
theorem Stp.grow {gp : GP} {F fr : List Addr} {cs₁ : List HP} {s : Shared} {h' : Heap} {t : Nat} (hk : ∀ a o, s.heap.get? a = some o → h'.get? a = some o) (hc : ∀ c ∈ cs₁, c.ok h' ∧ ∀ x ∈ c.foot, x ∈ F ∨ s.heap.objs.size ≤ x) (ap : cs₁.Pairwise Apart) : Stp gp F fr cs₁ s { s with heap := h', toks := t } :=
  ⟨id, rfl, fun b o e _ _ => hk b o e, fun b o e _ _ => ⟨o.slots, hk b o e⟩, hc, ap⟩
theorem sum_le {B : Nat} : ∀ {ts : List Str}, (∀ y ∈ ts, y.length ≤ B) → (ts.map (·.length)).sum ≤ ts.length * B
  | [], _ => Nat.zero_le _
  | x :: r, h => by
    have h1 := h x (.head _)
    have h2 := sum_le (ts := r) fun y hy => h y (.tail _ hy)
    simp only [List.map_cons, List.sum_cons, List.length_cons, Nat.succ_mul]
    omega
theorem join_le {sep : Str} {ts : List Str} {B : Nat} (h : ∀ y ∈ ts, y.length ≤ B) : (Txt.join sep ts).length ≤ ts.length * B + ts.length * sep.length := by
  show (Builtin.Str.glued sep ts).length ≤ _
  rw [StrLaws.glued_eq_join]
  exact Nat.le_trans (StrLaws.join_length_le sep ts) (Nat.add_le_add_right (sum_le h) _)
theorem join_fit {sep : Str} {ts : List Str} {B n : Nat} (h : ∀ y ∈ ts, y.length ≤ B) (hn : ts.length ≤ n) (hb : n * B + n * sep.length ≤ 16777216) : (ts.map (·.length)).sum + ts.length * sep.length ≤ 16777216 :=
  Nat.le_trans (Nat.add_le_add (Nat.le_trans (sum_le h) (Nat.mul_le_mul_right _ hn)) (Nat.mul_le_mul_right _ hn)) hb
theorem szl {n : Nat} (h : n ≤ 1000000) : n ≤ sizeLine := Nat.le_trans h (by decide)
theorem nodup1 (a : Addr) : [a].Nodup := List.nodup_cons.mpr ⟨fun q => (nomatch q), List.Pairwise.nil⟩
theorem one_mem {c : HP} {P : HP → Prop} (h : P c) : ∀ d ∈ [c], P d := fun d q => by cases List.mem_singleton.mp q; exact h
section
variable {α : Type} {w : World} {A : Around} {fm : Fm} {vs : Vals} {cs : List HP} {E : Value → Vals → List HP → Prop}
/-- a raw rule whose end is a step of the parts -/
theorem Sit.step {cs₀ cs₁ rest : List HP} {s s' : Shared} {v : α} {Q : α → Vals → List HP → Prop} (S : Sit fm vs (cs₀ ++ rest) s) (T : Stp fm.gp (feet cs₀) fm.fr cs₁ s s') (h : Q v vs (cs₁ ++ rest)) : At fm (Q v) s' := ⟨vs, _, S.call T, h⟩
/-- a method of a built-in kind -/
theorem G_MCall {o : Expr} {name : Str} {apos p : Pos} {args : List Expr} {T id : String} {Q : Value → Vals → List HP → Prop} (slot : Slot T name id) (ty : typeOf (.builtin id) = pure (.type "method_descriptor")) (pa : PlainAttrs T)
    (h : G w A fm (eval o fm.env) (fun ov vs cs => TyOk fm vs cs ov T ∧ G w A fm (callWith p (.builtin id) [ov] (backTo p (starEach args fm.env)) []) Q E vs cs) E vs cs)
    (hb : plainBase o = true) (ha : args.all notStar = true) (hn : decide (args.length < 30) = true) (hline : (apos.endLine == p.line) = true) : G w A fm (eval (.Call (.Attribute o name apos) args [] p) fm.env) Q E vs cs := fun s S =>
  wpAny_Call_method (base_of hb) (by
    have : (backTo p (starEach args fm.env)).all (fun x => !x.1) = true := by
      have := plain_of (p := p) (env := fm.env) ha
      rw [List.all_eq_not_any_not]; simpa using this
    rw [this, show (backToKw p (keywordEach [] fm.env)).all (fun x => x.1.isSome) = true from rfl]; simpa using hn) hline pa slot ty (wpAny_mono (h s S) (fun ov s₁ ⟨_, _, S', k, g⟩ => ⟨(k s₁ S').1, (k s₁ S').2, g s₁ S'⟩) fun _ _ x => x)
theorem G_cb {p : Pos} {id : String} {first : List Value} {e : Expr} {rest : List Expr} {Q : Value → Vals → List HP → Prop}
    (h : G w A fm (spliced (backTo p (starEach (e :: rest) fm.env))) (CallK w A fm (.builtin id) first Q E) E vs cs)
    (he : (e :: rest).all notStar = true) :
    G w A fm (callWith p (.builtin id) first (backTo p (starEach (e :: rest) fm.env)) []) Q E vs cs := G_callWith (keeps_plain fun _ q => nomatch q) h he
theorem G_cb0 {p : Pos} {id : String} {first : List Value} {Q : Value → Vals → List HP → Prop} (h : G w A fm (call (.builtin id) first) Q E vs cs) : G w A fm (callWith p (.builtin id) first (backTo p (starEach [] fm.env)) []) Q E vs cs :=
  G_callWith0 (keeps_plain fun _ q => nomatch q) (by rw [List.append_nil]; exact h)
/-- methods by the number of arguments -/
theorem G_m0 {o : Expr} {name : Str} {apos p : Pos} {T id : String} {Q : Value → Vals → List HP → Prop} (slot : Slot T name id) (ty : typeOf (.builtin id) = pure (.type "method_descriptor")) (pa : PlainAttrs T)
    (h : G w A fm (eval o fm.env) (M0K w A fm T id Q E) E vs cs)
    (hb : plainBase o = true) (hline : (apos.endLine == p.line) = true) : G w A fm (eval (.Call (.Attribute o name apos) [] [] p) fm.env) Q E vs cs :=
  G_MCall slot ty pa (G.mono h (fun ov vs cs ⟨k, g⟩ => ⟨k, G_cb0 g⟩) fun _ _ _ e => e) hb rfl rfl hline
theorem G_m1 {o e : Expr} {name : Str} {apos p : Pos} {T id : String} {Q : Value → Vals → List HP → Prop} (slot : Slot T name id) (ty : typeOf (.builtin id) = pure (.type "method_descriptor")) (pa : PlainAttrs T)
    (h : G w A fm (eval o fm.env) (M1K w A fm T id e Q E) E vs cs)
    (hb : plainBase o = true) (he : notStar e = true) (hline : (apos.endLine == p.line) = true) : G w A fm (eval (.Call (.Attribute o name apos) [e] [] p) fm.env) Q E vs cs :=
  G_MCall slot ty pa (G.mono h (fun ov vs cs ⟨k, g⟩ => ⟨k, G_cb (G_args (G.mono g (fun v vs cs g => G_args_nil g) fun _ _ _ e => e) he) (by rw [List.all_cons, he]; rfl)⟩) fun _ _ _ e => e) hb (by rw [List.all_cons, he]; rfl) rfl hline
theorem Sit.lsx {a : Addr} {xs : List Value} {ds : List PyData} {F : List Addr} {s : Shared} (S : Sit fm vs cs s) (hm : LSX a xs ds F ∈ cs) : ∃ n, s.heap.get? a = some (listO xs n) := (S.own _ hm).1.2.1
theorem isList_of {h : Heap} {a : Addr} {xs : List Value} (e : ∃ n, h.get? a = some (listO xs n)) : h.IsList a xs.toArray := let ⟨n, q⟩ := e; ⟨_, q, rfl, n, rfl⟩
theorem LSX.ty {a : Addr} {xs : List Value} {ds : List PyData} {F : List Addr} (hm : LSX a xs ds F ∈ cs) : ∀ s, Sit fm vs cs s → s.TypeIs (.ref a) "list" ∧ ∀ b, Value.ref a = .ref b → ∃ ob, s.heap.get? b = some ob ∧ ob.dict = none := fun s S => by
  obtain ⟨n, e⟩ := S.lsx hm
  exact ⟨⟨_, e, rfl⟩, fun b q => by cases q; exact ⟨_, e, rfl⟩⟩
theorem str_ty {x : Str} {t : Tok} : ∀ s, Sit fm vs cs s → s.TypeIs (.str x t) "str" ∧ ∀ b, Value.str x t = .ref b → ∃ ob, s.heap.get? b = some ob ∧ ob.dict = none := fun s S => ⟨typeIs_str s x t, fun b q => nomatch q⟩
theorem G_drop {c : HP} {t : Sem α} {Q : α → Vals → List HP → Prop} (h : G w A fm t Q E vs cs) : G w A fm t Q E vs (c :: cs) := G_sub (List.sublist_cons_self _ _) h
/-- append -/
theorem G_append {a : Addr} {xs : List Value} {ds : List PyData} {F : List Addr} {v : Value} {d : PyData} {Q : Value → Vals → List HP → Prop} (hv : ∀ h, Rx h [] v d) (hsz : ds.length ≤ sizeLine) (h : Q .none vs (LSX a (xs ++ [v]) (ds ++ [d]) F :: cs)) :
    G w A fm (call (.builtin "list.append") [.ref a, v]) Q E vs (LSX a xs ds F :: cs) := fun s S => by
  obtain ⟨nd, e, r⟩ := (S.own _ (.head _)).1
  refine wpAny_list_append_plain (items := xs.toArray) e (fun h' il sb => S.step (cs₀ := [LSX a xs ds F]) (cs₁ := [LSX a (xs ++ [v]) (ds ++ [d]) F]) (Stp.upd (t := s.toks) (.head _) sb (one_mem ⟨⟨nd, ?_, ?_⟩, fun x hx => mem_feet.mpr ⟨_, .head _, hx⟩⟩) (List.pairwise_singleton _ _)) h) (by rw [List.size_toArray, r.length]; exact hsz)
  · obtain ⟨n, q⟩ := il
    exact ⟨n, by rw [q]; simp [listO]⟩
  · have r' : RxAll h' F xs ds := r.loc fun b hb => sb.2 b fun z => (List.nodup_cons.mp nd).1 (z ▸ hb)
    have := r'.append (RxAll.one (hv h'))
    rwa [List.append_nil] at this
theorem G_append_own {a : Addr} {xs : List Value} {ds : List PyData} {F H : List Addr} {v : Value} {d : PyData} {Q : Value → Vals → List HP → Prop} (hsz : ds.length ≤ sizeLine) (h : Q .none vs (LSX a (xs ++ [v]) (ds ++ [d]) (F ++ H) :: cs)) :
    G w A fm (call (.builtin "list.append") [.ref a, v]) Q E vs (LSX a xs ds F :: DAT v d H :: cs) := fun s S => by
  obtain ⟨nd, e, r⟩ := (S.own _ (.head _)).1
  obtain ⟨nd2, r2⟩ := (S.own _ (.tail _ (.head _))).1
  have dj : ∀ x ∈ a :: F, x ∉ H := (List.pairwise_cons.mp S.apart).1 (DAT v d H) (.head _)
  have nd3 : (a :: (F ++ H)).Nodup := by
    rw [← List.cons_append]
    exact List.nodup_append.mpr ⟨nd, nd2, fun x hx y hy z => dj x hx (z ▸ hy)⟩
  refine wpAny_list_append_plain (items := xs.toArray) e (fun h' il sb => S.step (cs₀ := [LSX a xs ds F, DAT v d H]) (cs₁ := [LSX a (xs ++ [v]) (ds ++ [d]) (F ++ H)]) (Stp.upd (t := s.toks) (.head _) sb (one_mem ⟨⟨nd3, ?_, ?_⟩, fun x hx => ?_⟩) (List.pairwise_singleton _ _)) h) (by rw [List.size_toArray, r.length]; exact hsz)
  · obtain ⟨n, q⟩ := il
    exact ⟨n, by rw [q]; simp [listO]⟩
  · have r' : RxAll h' F xs ds := r.loc fun b hb => sb.2 b fun z => (List.nodup_cons.mp nd).1 (z ▸ hb)
    exact r'.append (RxAll.one (r2.loc fun b hb => sb.2 b fun z => dj a (.head _) (z ▸ hb)))
  · have hx' : x ∈ (a :: F) ++ H := hx
    rcases List.mem_append.mp hx' with q | q
    · exact mem_feet.mpr ⟨_, .head _, q⟩
    · exact mem_feet.mpr ⟨_, .tail _ (.head _), q⟩
/-- a new list of plain items -/
theorem G_newList {xs : List Value} {ds : List PyData} {Q : Value → Vals → List HP → Prop} (hv : ∀ h, RxAll h [] xs ds) (hsz : xs.length ≤ sizeLine) (h : ∀ a, Q (.ref a) vs (LSX a xs ds [] :: cs)) : G w A fm (newList xs) Q E vs cs := fun s S =>
  wpAny_newList ⟨vs, _, S.grow1 (t := s.toks) (c := LSX s.heap.objs.size xs ds []) (fun _ _ e => Heap.get?_push_of_some _ e) ⟨nodup1 _, ⟨0, Heap.get?_push_size _ rfl⟩, hv _⟩ (fun b hb => by cases List.mem_singleton.mp hb; exact Nat.le_refl _), h _⟩ hsz
theorem G_List {elts : List Expr} {p : Pos} {Q : Value → Vals → List HP → Prop} (h : G w A fm (spliced (backTo p (starEach elts fm.env))) (KC w A fm newList Q E) E vs cs) : G w A fm (eval (.List elts p) fm.env) Q E vs cs := fun s S =>
  List_ (wpAny_mono (h s S) (fun xs s₁ ⟨_, _, S', g⟩ => g s₁ S') fun _ _ x => x)
theorem G_Tuple {elts : List Expr} {k : Nat} {p : Pos} {Q : Value → Vals → List HP → Prop} (h : G w A fm (spliced (backTo p (starEach elts fm.env))) (KC w A fm newTuple Q E) E vs cs) : G w A fm (eval (.Tuple elts k p) fm.env) Q E vs cs := fun s S =>
  Tuple_ (wpAny_mono (h s S) (fun xs s₁ ⟨_, _, S', g⟩ => g s₁ S') fun _ _ x => x)
theorem G_newTuple {xs : List Value} {ds : List PyData} {Q : Value → Vals → List HP → Prop} (hv : ∀ h, RxAll h [] xs ds) (hsz : xs.length ≤ sizeLine) (h : ∀ a, Q (.ref a) vs (DAT (.ref a) (.tuple ds) [a] :: cs)) : G w A fm (newTuple xs) Q E vs cs := fun s S =>
  wpAny_newTuple ⟨vs, _, S.grow1 (t := s.toks) (c := DAT (.ref s.heap.objs.size) (.tuple ds) [s.heap.objs.size]) (fun _ _ e => Heap.get?_push_of_some _ e) ⟨nodup1 _, .tuple (n := 0) (Heap.get?_push_size _ rfl) (hv _)⟩ (fun b hb => by cases List.mem_singleton.mp hb; exact Nat.le_refl _), h _⟩ hsz
/-- len of a list -/
theorem G_len {a : Addr} {xs : List Value} {Q : Value → Vals → List HP → Prop} (hl : ∀ s, Sit fm vs cs s → s.heap.IsList a xs.toArray) (hfit : (xs.length : Int) < 2 ^ 63) (h : ∀ t, Q (.int xs.length t) vs cs) : G w A fm (call (.builtin "len") [.ref a]) Q E vs cs := fun s S =>
  call_len_list (hl s S) (by rw [List.size_toArray]; exact hfit) (by rw [List.size_toArray]; exact ⟨vs, cs, S.toks _, h _⟩)
theorem G_Sub {value slice : Expr} {p : Pos} {Q : Value → Vals → List HP → Prop} (h : G w A fm (eval value fm.env) (BinK w A fm slice (subscriptTail value slice) Q E) E vs cs) :
    G w A fm (eval (.Subscript value slice p) fm.env) Q E vs cs := fun s S => Subscript_ (wpAny_mono (h s S) (fun o s₁ y => wpAny_mono (At.go y) (fun b s₂ y => At.go y) fun _ _ x => x) fun _ _ x => x)
/-- an item of a list -/
theorem G_item {value slice : Expr} {a : Addr} {xs : List Value} {k : Int} {t : Tok} {v : Value} {Q : Value → Vals → List HP → Prop} (hl : ∀ s, Sit fm vs cs s → s.heap.IsList a xs.toArray) (h0 : 0 ≤ k) (hfit : k < 2 ^ 63) (hx : xs[k.toNat]? = some v) (h : Q v vs cs)
    (hs : subscripted slice false (.ref a) (.int k t) = operate [.ref a, .int k t] (getItem (.ref a) (.int k t)) := by with_unfolding_all rfl) : G w A fm (subscriptTail value slice (.ref a) (.int k t)) Q E vs cs := fun s S =>
  tail_any (hl s S).typeIs slot_list_getitem.lookup (wpAny_getItem_list (hl s S) h0 hfit (by simpa using hx) ⟨vs, cs, S, h⟩) hs
theorem G_addStr {x y : Str} {t u : Tok} {Q : Value → Vals → List HP → Prop} (hsz : x.length + y.length ≤ sizeLine) (h : ∀ t, Q (.str (x ++ y) t) vs cs) : G w A fm (binaryOp .Add (.str x t) (.str y u)) Q E vs cs := fun s S =>
  PyProof.Rows.add_str (fun t' tk => ⟨vs, cs, S.toks tk, h t'⟩) hsz
theorem G_iaddStr {x y : Str} {t u : Tok} {Q : Value → Vals → List HP → Prop} (hsz : x.length + y.length ≤ sizeLine) (h : ∀ t, Q (.str (x ++ y) t) vs cs) : G w A fm (inplaceOp .Add (.str x t) (.str y u)) Q E vs cs := fun s S =>
  PyProof.Rows.iadd_str (fun t' tk => ⟨vs, cs, S.toks tk, h t'⟩) hsz
theorem G_eqI {a b : Int} {t u : Tok} {Q : Value → Vals → List HP → Prop} (h : Q (.bool (a == b)) vs cs) : G w A fm (compareOp .Eq (.int a t) (.int b u)) Q E vs cs := fun s S => PyProof.Rows.eq_int ⟨vs, cs, S, h⟩
theorem G_eqS {a b : Str} {t u : Tok} {Q : Value → Vals → List HP → Prop} (h : Q (.bool (a == b)) vs cs) : G w A fm (compareOp .Eq (.str a t) (.str b u)) Q E vs cs := fun s S => PyProof.Rows.eq_str ⟨vs, cs, S, h⟩
theorem G_neS {a b : Str} {t u : Tok} {Q : Value → Vals → List HP → Prop} (h : Q (.bool (a != b)) vs cs) : G w A fm (compareOp .NotEq (.str a t) (.str b u)) Q E vs cs := fun s S => PyProof.Rows.ne_str ⟨vs, cs, S, h⟩
/-- a text in a list of texts -/
theorem G_inL {a : Addr} {ys : List Value} {xs : List Str} {x : Str} {t : Tok} {Q : Value → Vals → List HP → Prop} (hl : ∀ s, Sit fm vs cs s → s.heap.IsList a ys.toArray) (hs : Strs ys xs) (h : Q (.bool (xs.any (· == x))) vs cs) : G w A fm (compareOp .In (.str x t) (.ref a)) Q E vs cs := fun s S => by
  have e : ∀ {ys : List Value} {xs : List Str}, Strs ys xs → ys.any (isStrOf x) = xs.any (· == x) := by
    intro ys xs q
    induction q with
    | nil => rfl
    | cons _ ih => rw [List.any_cons, List.any_cons, ih]; rfl
  refine SeqAt.in_listAt (isStrOf x) (hl s S) (fun y hy => (eq_isStrOf x t hs.are y (by simpa using hy)).at _ _) ?_
  rw [List.any_toArray, e hs]
  exact ⟨vs, cs, S, h⟩
theorem G_join {a : Addr} {ys : List Value} {xs : List Str} {x : Str} {t : Tok} {Q : Value → Vals → List HP → Prop} (hl : ∀ s, Sit fm vs cs s → s.heap.IsList a ys.toArray) (hs : Strs ys xs) (hok : (xs.map (·.length)).sum + xs.length * x.length ≤ 16777216) (h : ∀ t, Q (.str (Txt.join x xs) t) vs cs) :
    G w A fm (call (.builtin "str.join") [.str x t, .ref a]) Q E vs cs := fun s S => join_list (hl s S) hs.are hok fun t' k => ⟨vs, cs, S.toks k, h t'⟩
end
end
end
section
open PySem PySem.W PyProof.Rows PySem.Calls
section
section
variable {α : Type} {w : World} {A : Around} {fm : Fm} {vs : Vals} {cs : List HP} {E : Value → Vals → List HP → Prop}
theorem G_m2 {o e e' : Expr} {name : Str} {apos p : Pos} {T id : String} {Q : Value → Vals → List HP → Prop} (slot : Slot T name id) (ty : typeOf (.builtin id) = pure (.type "method_descriptor")) (pa : PlainAttrs T)
    (h : G w A fm (eval o fm.env) (M2K w A fm T id e e' Q E) E vs cs)
    (hb : plainBase o = true) (he : notStar e = true) (he' : notStar e' = true) (hline : (apos.endLine == p.line) = true) : G w A fm (eval (.Call (.Attribute o name apos) [e, e'] [] p) fm.env) Q E vs cs :=
  G_MCall slot ty pa (G.mono h (fun ov vs cs ⟨k, g⟩ => ⟨k, G_cb (G_args (G.mono g (fun v vs cs g => G_args (G.mono g (fun v' vs cs g => G_args_nil g) fun _ _ _ e => e) he') fun _ _ _ e => e) he) (by rw [List.all_cons, List.all_cons, he, he']; rfl)⟩) fun _ _ _ e => e) hb (by rw [List.all_cons, List.all_cons, he, he']; rfl) rfl hline
theorem strs_numbered : ∀ (l : List (Str × Tok)), Strs (strValues l) (l.map (·.1))
  | [] => .nil
  | (x, t) :: l => .cons (strs_numbered l)
/-- split by a separator, at most k times -/
theorem G_split {x y : Str} {k : Int} {t u v : Tok} {Q : Value → Vals → List HP → Prop} (hy : (y.length == 0) = false) (hk : (decide (k < -(2 ^ 63 : Int)) || decide (k ≥ 2 ^ 63)) = false) (hsz : x.length + 2 ≤ sizeLine)
    (h : ∀ a ys, Strs ys (Txt.splitMax x y k) → Q (.ref a) vs (LSX a ys ((Txt.splitMax x y k).map .str) [] :: cs)) : G w A fm (call (.builtin "str.split") [.str x t, .str y u, .int k v]) Q E vs cs := fun s S => by
  have fin : ∀ (l : List (Str × Tok)) (tk : Nat), l.map (·.1) = Txt.splitMax x y k → At fm (Q (.ref s.heap.objs.size)) { s with heap := s.heap.push { cls := .type "list", data := .seq (strValues l).toArray }, toks := tk } := fun l tk e => by
    have hs : Strs (strValues l) (Txt.splitMax x y k) := e ▸ strs_numbered l
    exact ⟨vs, _, S.grow1 (c := LSX s.heap.objs.size (strValues l) ((Txt.splitMax x y k).map .str) []) (fun _ _ e => Heap.get?_push_of_some _ e) ⟨nodup1 _, ⟨0, Heap.get?_push_size _ rfl⟩, hs.rx⟩ (fun b hb => by cases List.mem_singleton.mp hb; exact Nat.le_refl _), h _ _ hs⟩
  have hn : (Builtin.Str.partsBetween x (Builtin.Str.occurrences x y 0 x.length (limitOf x k)) y.length).length ≤ sizeLine := by
    have e1 := StrLaws.occ_length_le_len x y 0 x.length (limitOf x k)
    rw [length_partsBetween]; omega
  cases h1 : (decide (x.length < y.length) || decide (Builtin.Str.strKind x < Builtin.Str.strKind y))
  · cases hf : (Builtin.Str.occurrences x y 0 x.length (limitOf x k)).isEmpty
    · refine call_meets F.slot_str_split (typeIs_str _ _ _) F.entry_str_split (F.args_str_split_3 _ _ _) (meets_str_split_sep_max x y k t u v hk h1 hy hf (by omega) hn) ?_
      show wants _ _ _ { s with toks := _, heap := s.heap.push { cls := .type "list", data := .seq (strsFrom s.toks (Builtin.Str.partsBetween x (Builtin.Str.occurrences x y 0 x.length (limitOf x k)) y.length)).toArray } }
      rw [strsFrom_eq]
      exact fin (numbered s.toks _) _ ((numbered_texts _ _).trans ((if_neg (ne_true_of_eq_false h1)).trans (if_neg (ne_true_of_eq_false hf))).symm)
    · exact call_meets F.slot_str_split (typeIs_str _ _ _) F.entry_str_split (F.args_str_split_3 _ _ _) (meets_str_split_max_not_found x y k t u v hk h1 hy hf) (fin [(x, t)] s.toks ((if_neg (ne_true_of_eq_false h1)).trans (if_pos hf)).symm)
  · exact call_meets F.slot_str_split (typeIs_str _ _ _) F.entry_str_split (F.args_str_split_3 _ _ _) (meets_str_split_max_cannot_occur x y k t u v hk h1) (fin [(x, t)] s.toks (if_pos h1).symm)
theorem G_leI {a b : Int} {t u : Tok} {Q : Value → Vals → List HP → Prop} (h : Q (.bool (decide (a ≤ b))) vs cs) : G w A fm (compareOp .LtE (.int a t) (.int b u)) Q E vs cs := fun s S => PyProof.Rows.le_int ⟨vs, cs, S, h⟩
theorem G_ltI {a b : Int} {t u : Tok} {Q : Value → Vals → List HP → Prop} (h : Q (.bool (decide (a < b))) vs cs) : G w A fm (compareOp .Lt (.int a t) (.int b u)) Q E vs cs := fun s S => PyProof.Rows.lt_int ⟨vs, cs, S, h⟩
theorem G_gtI {a b : Int} {t u : Tok} {Q : Value → Vals → List HP → Prop} (h : Q (.bool (decide (b < a))) vs cs) : G w A fm (compareOp .Gt (.int a t) (.int b u)) Q E vs cs := fun s S => PyProof.Rows.gt_int ⟨vs, cs, S, h⟩
theorem G_geI {a b : Int} {t u : Tok} {Q : Value → Vals → List HP → Prop} (h : Q (.bool (decide (b ≤ a))) vs cs) : G w A fm (compareOp .GtE (.int a t) (.int b u)) Q E vs cs := fun s S => PyProof.Rows.ge_int ⟨vs, cs, S, h⟩
theorem G_neI {a b : Int} {t u : Tok} {Q : Value → Vals → List HP → Prop} (h : Q (.bool (a != b)) vs cs) : G w A fm (compareOp .NotEq (.int a t) (.int b u)) Q E vs cs := fun s S => PyProof.Rows.ne_int ⟨vs, cs, S, h⟩
theorem G_is {a b : Value} {Q : Value → Vals → List HP → Prop} (hp : plainIs a b = true) (h : Q (.bool (a == b)) vs cs) : G w A fm (compareOp .Is a b) Q E vs cs := fun s S => wpAny_is_plain hp ⟨vs, cs, S, h⟩
theorem G_isNot {a b : Value} {Q : Value → Vals → List HP → Prop} (hp : plainIs a b = true) (h : Q (.bool (!(a == b))) vs cs) : G w A fm (compareOp .IsNot a b) Q E vs cs := fun s S => wpAny_isNot_plain hp ⟨vs, cs, S, h⟩
theorem G_addI {a b : Int} {t u : Tok} {Q : Value → Vals → List HP → Prop} (h : ∀ t, Q (.int (a + b) t) vs cs) : G w A fm (binaryOp .Add (.int a t) (.int b u)) Q E vs cs := fun s S => PyProof.Rows.add_int ⟨vs, cs, S.toks _, h _⟩
theorem G_subI {a b : Int} {t u : Tok} {Q : Value → Vals → List HP → Prop} (h : ∀ t, Q (.int (a - b) t) vs cs) : G w A fm (binaryOp .Sub (.int a t) (.int b u)) Q E vs cs := fun s S => PyProof.Rows.sub_int ⟨vs, cs, S.toks _, h _⟩
theorem G_modI {a b : Int} {t u : Tok} {Q : Value → Vals → List HP → Prop} (hb : b ≠ 0) (h : ∀ t, Q (.int (a.fmod b) t) vs cs) : G w A fm (binaryOp .Mod (.int a t) (.int b u)) Q E vs cs := fun s S => PyProof.Rows.mod_int hb ⟨vs, cs, S.toks _, h _⟩
theorem G_iaddI {a b : Int} {t u : Tok} {Q : Value → Vals → List HP → Prop} (h : ∀ t, Q (.int (a + b) t) vs cs) : G w A fm (inplaceOp .Add (.int a t) (.int b u)) Q E vs cs := fun s S => PyProof.Rows.iadd_int ⟨vs, cs, S.toks _, h _⟩
theorem G_isubI {a b : Int} {t u : Tok} {Q : Value → Vals → List HP → Prop} (h : ∀ t, Q (.int (a - b) t) vs cs) : G w A fm (inplaceOp .Sub (.int a t) (.int b u)) Q E vs cs := fun s S => PyProof.Rows.isub_int ⟨vs, cs, S.toks _, h _⟩
/-- the parts bear the values -/
noncomputable def Bears (cn : List HP) (xs : List Value) (ds : List PyData) : Prop := ∀ h, (∀ c ∈ cn, c.ok h) → cn.Pairwise Apart → (feet cn).Nodup ∧ RxAll h (feet cn) xs ds
theorem Bears.nil : Bears [] [] [] := fun _ _ _ => ⟨List.Pairwise.nil, .nil⟩
theorem Bears.plain {cn : List HP} {xs : List Value} {ds : List PyData} {v : Value} {d : PyData} (hv : ∀ h, Rx h [] v d) (b : Bears cn xs ds) : Bears cn (v :: xs) (d :: ds) := fun h o p => ⟨(b h o p).1, .cons (F := []) (hv h) (b h o p).2⟩
theorem Bears.dat {cn : List HP} {xs : List Value} {ds : List PyData} {v : Value} {d : PyData} {F : List Addr} (b : Bears cn xs ds) : Bears (DAT v d F :: cn) (v :: xs) (d :: ds) := fun h o p => by
  obtain ⟨n, r⟩ := b h (fun c hc => o c (.tail _ hc)) (List.pairwise_cons.mp p).2
  obtain ⟨n1, r1⟩ := o _ (.head _)
  refine ⟨?_, .cons r1 r⟩
  show (F ++ feet cn).Nodup
  refine List.nodup_append.mpr ⟨n1, n, fun x hx y hy z => ?_⟩
  obtain ⟨c, hc, hy⟩ := mem_feet.mp hy
  exact (List.pairwise_cons.mp p).1 c hc x hx (z ▸ hy)
theorem G_newTupD {cn : List HP} {xs : List Value} {ds : List PyData} {Q : Value → Vals → List HP → Prop} (b : Bears cn xs ds) (hsz : xs.length ≤ sizeLine) (h : ∀ a, Q (.ref a) vs (DAT (.ref a) (.tuple ds) (a :: feet cn) :: cs)) : G w A fm (newTuple xs) Q E vs (cn ++ cs) := fun s S => by
  have O := S.owned
  obtain ⟨nd, r⟩ := b s.heap (fun c hc => (O.own c hc).1) O.apart
  refine wpAny_newTuple (S.step (cs₀ := cn) (cs₁ := [DAT (.ref s.heap.objs.size) (.tuple ds) (s.heap.objs.size :: feet cn)]) (Stp.grow (t := s.toks) (fun _ _ e => Heap.get?_push_of_some _ e) (one_mem ⟨⟨?_, ?_⟩, fun x hx => ?_⟩) (List.pairwise_singleton _ _)) (h _)) hsz
  · refine List.nodup_cons.mpr ⟨fun q => ?_, nd⟩
    obtain ⟨o, e⟩ := r.lt _ q
    exact absurd (Heap.lt_size e) (Nat.lt_irrefl _)
  · exact .tuple (n := 0) (Heap.get?_push_size _ rfl) (r.loc fun a ha => by obtain ⟨o, e⟩ := r.lt a ha; rw [e]; exact Heap.get?_push_of_some _ e)
  · cases hx with
    | head => exact .inr (Nat.le_refl _)
    | tail _ hx => exact .inl hx
/-- isinstance(x, list) -/
theorem G_isiL {a : Addr} {Q : Value → Vals → List HP → Prop} (hl : ∀ s, Sit fm vs cs s → ∃ o, s.heap.get? a = some o ∧ o.cls = .type "list") (h : Q (.bool true) vs cs) : G w A fm (call (.builtin "isinstance") [.ref a, .type "list"]) Q E vs cs := fun s S => let ⟨o, ho, hc⟩ := hl s S; IsiPair.list_list ho hc ⟨vs, cs, S, h⟩
theorem G_isiT {a : Addr} {Q : Value → Vals → List HP → Prop} (hl : ∀ s, Sit fm vs cs s → ∃ o, s.heap.get? a = some o ∧ o.cls = .type "tuple") (h : Q (.bool false) vs cs) : G w A fm (call (.builtin "isinstance") [.ref a, .type "list"]) Q E vs cs := fun s S => let ⟨o, ho, hc⟩ := hl s S; IsiPair.tuple_list ho hc ⟨vs, cs, S.toks _, h⟩
end
end
end
section
open PySem PySem.W PyProof.Rows PySem.Calls Builtin
section
noncomputable def look : List Str → Vals → Str → Option Value
  | x :: ks, o :: vs, y => if y = x then o else look ks vs y
  | _, _, _ => none
theorem look_none {y : Str} : ∀ {ks : List Str} {vs : Vals}, y ∉ ks → look ks vs y = none
  | [], _, _ => by unfold look; rfl
  | _ :: _, [], _ => by unfold look; rfl
  | x :: ks, o :: vs, h => (if_neg (fun q : y = x => h (q ▸ .head _))).trans (look_none fun q => h (.tail _ q))
theorem Get.look {ks : List Str} {vs : Vals} {x : Str} {v : Value} (g : Get ks vs x v) (nd : ks.Nodup) : look ks vs x = some v := by
  induction g with
  | here => exact if_pos rfl
  | @there x y ks o v vs g ih =>
    have hn := List.nodup_cons.mp nd
    exact (if_neg (fun q : x = y => hn.1 (q ▸ g.mem))).trans (ih hn.2)
theorem Put.look {ks : List Str} {vs vs' : Vals} {x : Str} {v : Value} (g : Put ks vs x v vs') (nd : ks.Nodup) (y : Str) : look ks vs' y = if y = x then some v else look ks vs y := by
  induction g with
  | @here x ks o v vs =>
    show (if y = x then some v else Mine.look ks vs y) = if y = x then some v else if y = x then o else Mine.look ks vs y
    split <;> rfl
  | @there x z ks o v vs vs' g ih =>
    have hn := List.nodup_cons.mp nd
    show (if y = z then o else Mine.look ks vs' y) = if y = x then some v else if y = z then o else Mine.look ks vs y
    rw [ih hn.2]
    by_cases h1 : y = z
    · rw [if_pos h1, if_pos h1, if_neg (fun q : y = x => hn.1 (h1 ▸ q ▸ g.mem))]
    · rw [if_neg h1, if_neg h1]
noncomputable def cnt (vs : Vals) : Nat := (vs.filter Option.isSome).length
theorem cnt_le (vs : Vals) : cnt vs ≤ vs.length := List.length_filter_le _ _
theorem Put.cnt {ks : List Str} {vs vs' : Vals} {x : Str} {v : Value} (g : Put ks vs x v vs') (nd : ks.Nodup) : Mine.cnt vs' = if (Mine.look ks vs x).isSome = true then Mine.cnt vs else Mine.cnt vs + 1 := by
  induction g with
  | @here x ks o v vs =>
    have e : Mine.look (x :: ks) (o :: vs) x = o := if_pos rfl
    rw [e]
    cases o <;> simp [Mine.cnt]
  | @there x z ks o v vs vs' g ih =>
    have hn := List.nodup_cons.mp nd
    have e : Mine.look (z :: ks) (o :: vs) x = Mine.look ks vs x := if_neg (fun q : x = z => hn.1 (q ▸ g.mem))
    rw [e]
    have ih := ih hn.2
    have c : ∀ l : Vals, Mine.cnt (o :: l) = Mine.cnt l + (if o.isSome = true then 1 else 0) := fun l => by cases o <;> simp [Mine.cnt]
    rw [c, c, ih]
    split <;> omega
theorem Put.len {ks : List Str} {vs vs' : Vals} {x : Str} {v : Value} (g : Put ks vs x v vs') : vs'.length = vs.length := by
  induction g with
  | here => rfl
  | there _ ih => exact congrArg (· + 1) ih
/-- the entries of an object's own dict -/
structure Ents (ks : List Str) (vs : Vals) (es : List DictEntry) : Prop where
  key : ∀ e ∈ es, ∃ n t, e.key = .str n t
  val : ∀ y, (es.find? (·.key.isStr y)).map (·.val) = look ks vs y
  len : es.length = cnt vs
  vl : vs.length ≤ 500
theorem ents_nil {ks : List Str} {n : Nat} (hn : n ≤ 500) : Ents ks (List.replicate n none) [] := by
  refine ⟨fun _ q => (nomatch q), fun y => ?_, (by simp [cnt]), by rw [List.length_replicate]; exact hn⟩
  show none = look ks (List.replicate n none) y
  induction ks generalizing n with
  | nil => unfold look; rfl
  | cons k ks ih =>
    cases n with
    | zero => unfold look; rfl
    | succ n => show none = if y = k then none else look ks (List.replicate n none) y; rw [← ih (by omega)]; split <;> rfl
theorem isStr_iff {v : Value} {x : Str} {n : Str} {t : Tok} (h : v = .str n t) : v.isStr x = (n == x) := by subst h; rfl
theorem putL_map (name : Str) (hs : Int) (key v : Value) (hk : ∃ t, key = .str name t) : ∀ (es : List DictEntry), (∀ e ∈ es, ∃ n t, e.key = .str n t) → ∀ y, ((putL name hs key v es).find? (·.key.isStr y)).map (·.val) = if y = name then some v else (es.find? (·.key.isStr y)).map (·.val)
  | [], _, y => by
    obtain ⟨t, rfl⟩ := hk
    show (List.find? _ [_]).map _ = _
    rw [List.find?_cons]
    show (match (name == y) with | true => some _ | false => none).map _ = _
    by_cases h : y = name
    · subst h; simp
    · have : (name == y) = false := by rw [beq_eq_false_iff_ne]; exact Ne.symm h
      rw [this, if_neg h]; rfl
  | e :: r, hK, y => by
    obtain ⟨n, t, he⟩ := hK e (.head _)
    unfold putL
    by_cases h1 : e.key.isStr name = true
    · rw [if_pos h1]
      have hn : n = name := by rw [isStr_iff he] at h1; exact beq_iff_eq.mp h1
      subst hn
      rw [List.find?_cons, List.find?_cons]
      show (match e.key.isStr y with | true => some _ | false => List.find? _ r).map _ = _
      by_cases h : y = n
      · subst h; rw [h1]; simp
      · have : e.key.isStr y = false := by rw [isStr_iff he, beq_eq_false_iff_ne]; exact Ne.symm h
        rw [this, if_neg h]
    · rw [if_neg h1]
      rw [List.find?_cons, List.find?_cons]
      have ih := putL_map name hs key v hk r (fun e he => hK e (.tail _ he)) y
      by_cases h : y = name
      · subst h
        have h1' : e.key.isStr y = false := by simpa using h1
        rw [h1', ih]
      · cases h2 : e.key.isStr y
        · exact ih
        · rw [if_neg h]
theorem putL_key (name : Str) (hs : Int) (key v : Value) (hk : ∃ t, key = .str name t) : ∀ (es : List DictEntry), (∀ e ∈ es, ∃ n t, e.key = .str n t) → ∀ e ∈ putL name hs key v es, ∃ n t, e.key = .str n t
  | [], _, e, q => by
    obtain ⟨t, rfl⟩ := hk
    cases List.mem_singleton.mp q
    exact ⟨_, _, rfl⟩
  | e :: r, hK, e', q => by
    unfold putL at q
    split at q
    · cases q with
      | head => exact hK e (.head _)
      | tail _ q => exact hK e' (.tail _ q)
    · cases q with
      | head => exact hK e (.head _)
      | tail _ q => exact putL_key name hs key v hk r (fun e he => hK e (.tail _ he)) e' q
theorem putL_len (name : Str) (hs : Int) (key v : Value) : ∀ (es : List DictEntry), (putL name hs key v es).length = if (es.find? (·.key.isStr name)).isSome = true then es.length else es.length + 1
  | [] => rfl
  | e :: r => by
    unfold putL
    rw [List.find?_cons]
    cases h : e.key.isStr name
    · rw [if_neg (by decide)]
      show (putL name hs key v r).length + 1 = _
      rw [putL_len name hs key v r]
      show _ = if (r.find? _).isSome = true then r.length + 1 else r.length + 1 + 1
      split <;> rfl
    · rw [if_pos rfl]; rfl
theorem Ents.put {ks : List Str} {vs vs' : Vals} {es : List DictEntry} {x : Str} {v key : Value} {hs : Int} (e : Ents ks vs es) (g : Put ks vs x v vs') (nd : ks.Nodup) (hk : ∃ t, key = .str x t) : Ents ks vs' (putL x hs key v es) := by
  refine ⟨putL_key x hs key v hk es e.key, fun y => ?_, ?_, by rw [g.len]; exact e.vl⟩
  · rw [putL_map x hs key v hk es e.key y, g.look nd, e.val y]
  · rw [putL_len, g.cnt nd, e.len]
    have : (es.find? (·.key.isStr x)).isSome = (look ks vs x).isSome := by rw [← e.val x, Option.isSome_map]
    rw [this]
noncomputable abbrev instO (C dx : Addr) : Obj := ⟨.ref C, some dx, .plain, #[]⟩
/-- an own object with its dict -/
noncomputable def INS (C : Addr) (ks : List Str) (x dx : Addr) (vs : Vals) : HP where
  foot := [x, dx]
  ok h := x ≠ dx ∧ h.get? x = some (instO C dx) ∧ ∃ es n, h.get? dx = some (dictOf es n) ∧ Ents ks vs es
  loc e := fun ⟨n, p, es, k, q, r⟩ => ⟨n, (e _ (.head _)).trans p, es, k, (e _ (.tail _ (.head _))).trans q, r⟩
  lt := fun ⟨n, p, es, k, q, r⟩ b hb => by
    cases hb with
    | head => exact ⟨_, p⟩
    | tail _ hb => cases List.mem_singleton.mp hb; exact ⟨_, q⟩
/-- what the written top says of a class whose objects keep their names in a dict -/
noncomputable def attrOk (K : Frag) (C : Addr) (name : Str) : Bool :=
  (match findIn K (.ref C) name with | some attr => noGet K attr | none => false) && takerIn K C name == some none
noncomputable def clsOk (K : Frag) (C : Addr) (ks : List Str) : Bool :=
  plainGet K C "" && hasDictIn K C && findIn K (.ref C) "__setattr__" == some (some (.builtin "object.__setattr__")) && plainOver K C && decide ks.Nodup && decide (ks.length ≤ 500) && ks.all (attrOk K C)
structure ClsOk (K : Frag) (C : Addr) (ks : List Str) : Prop where
  get : plainGet K C "" = true
  dict : hasDictIn K C = true
  set : findIn K (.ref C) "__setattr__" = some (some (.builtin "object.__setattr__"))
  over : plainOver K C = true
  nd : ks.Nodup
  len : ks.length ≤ 500
  attr : ∀ x ∈ ks, attrOk K C x = true
theorem clsOk_of {K : Frag} {C : Addr} {ks : List Str} (h : clsOk K C ks = true) : ClsOk K C ks := by
  unfold clsOk at h
  simp only [Bool.and_eq_true, beq_iff_eq, decide_eq_true_eq, List.all_eq_true] at h
  obtain ⟨⟨⟨⟨⟨⟨h1, h2⟩, h3⟩, h4⟩, h5⟩, h6⟩, h7⟩ := h
  exact ⟨h1, h2, h3, h4, h5, h6, h7⟩
theorem INS.inst {C : Addr} {ks : List Str} {x dx : Addr} {vs : Vals} {h : Heap} (o : (INS C ks x dx vs).ok h) : ∃ es n, InstAt h x (instO C dx) C (some (dictOf es n)) ∧ Ents ks vs es := by
  obtain ⟨_, p, es, n, q, r⟩ := o
  exact ⟨es, n, ⟨p, rfl, rfl, q⟩, r⟩
theorem Ents.look {ks : List Str} {vs : Vals} {es : List DictEntry} {n : Nat} (e : Ents ks vs es) (y : Str) : lookIn y (dictOf es n) = some (look ks vs y) := by
  unfold lookIn
  show (match es.toArray.toList.find? _ with | some e => some (some e.val) | none => if es.toArray.toList.any _ then none else some none) = _
  rw [show es.toArray.toList = es from rfl, ← e.val y]
  cases h : es.find? (·.key.isStr y) with
  | some e => rfl
  | none =>
    have : es.any (·.refKey) = false := by
      rw [List.any_eq_false]
      intro d hd
      obtain ⟨n, t, q⟩ := e.key d hd
      simp [DictEntry.refKey, q]
    simp only [this]; rfl
section
variable {w : World} {A : Around} {fm : Fm} {vs : Vals} {cs : List HP} {E : Value → Vals → List HP → Prop}
/-- an object's own attribute -/
theorem G_get {C : Addr} {ks : List Str} {x dx : Addr} {as : Vals} {name : Str} {v : Value} {ex : Bool} {Q : Value → Vals → List HP → Prop} (ok : ClsOk fm.K C ks) (hi : ∀ s, Sit fm vs cs s → (INS C ks x dx as).ok s.heap) (g : Get ks as name v) (hv : handedIn v = true) (h : Q v vs cs) :
    G w A fm (getAttr (.ref x) name ex) Q E vs cs := fun s S => by
  obtain ⟨es, n, I, en⟩ := INS.inst (hi s S)
  have z := ok.attr name g.mem
  unfold attrOk at z
  obtain ⟨z1, _⟩ := Bool.and_eq_true_iff.mp z
  split at z1
  · rename_i attr ha
    exact get_value S.top.kin I (plainGet_of ok.get).1 (findObj_own ok.dict ha z1 (by rw [en.look, g.look ok.nd])) hv ⟨vs, cs, S.toks _, h⟩
  · cases z1
/-- a method -/
theorem G_getMeth {C f : Addr} {ks : List Str} {x dx : Addr} {as : Vals} {name : Str} {pl : Sem Bool} {Q : Value × List Value → Vals → List HP → Prop} (ok : ClsOk fm.K C ks) (hi : ∀ s, Sit fm vs cs s → (INS C ks x dx as).ok s.heap) (hf : findIn fm.K (.ref C) name = some (some (.ref f)))
    (ht : isFn fm.K (.ref f) = true) (hn : name ∉ ks) (h : Q (.ref f, [.ref x]) vs cs) : G w A fm (getMethod (.ref x) name pl) Q E vs cs := fun s S => by
  obtain ⟨es, n, I, en⟩ := INS.inst (hi s S)
  exact method_fn S.top.kin I (plainGet_of ok.get).1 (plainGet_of ok.get).2 hf (beq_iff_eq.mp ht) (by show (lookIn name (dictOf es n)).map _ = _; rw [en.look, look_none hn]; rfl) ⟨vs, cs, S, h⟩
/-- an attribute is stored -/
theorem G_set {C : Addr} {ks : List Str} {x dx : Addr} {as as' : Vals} {name : Str} {v : Value} {Q : Unit → Vals → List HP → Prop} (ok : ClsOk fm.K C ks) (g : Put ks as name v as') (h : Q () vs (INS C ks x dx as' :: cs)) :
    G w A fm (setAttr (.ref x) name v) Q E vs (INS C ks x dx as :: cs) := fun s S => by
  obtain ⟨hne, p, es, n, q, en⟩ := (S.own _ (.head _)).1
  have I : InstAt s.heap x (instO C dx) C (some (dictOf es n)) := ⟨p, rfl, rfl, q⟩
  have z := ok.attr name g.mem
  unfold attrOk at z
  have z2 := beq_iff_eq.mp (Bool.and_eq_true_iff.mp z).2
  have X := S.top.kin
  refine set_plain X I ok.set ?_
  refine osa_open (s := { s with toks := s.toks + 1 }) X I ok.over z2 fun b => ?_
  obtain ⟨cd, hc, hd'⟩ := any_some ok.dict
  dsimp only
  have fin : ∀ (tk : Nat) (key : Value) (hs : Int), (∃ u, key = .str name u) → At fm (Q ()) { s with heap := s.heap.update dx (Obj.putName name hs key v), toks := tk } := by
    intro tk key hs hk
    refine S.step (cs₀ := [INS C ks x dx as]) (cs₁ := [INS C ks x dx as']) (Stp.upd (a := dx) (.tail _ (.head _)) (Heap.SameBut.update ..) (one_mem ⟨⟨hne, ?_, putL name hs key v es, putN name es n, ?_, en.put (hs := hs) g ok.nd hk⟩, fun x hx => mem_feet.mpr ⟨_, .head _, hx⟩⟩) (List.pairwise_singleton _ _)) h
    · exact (Heap.get?_update_other _ _ (Ne.symm hne)).trans p
    · exact (Heap.get?_update_self _ q (by rw [putName_dict]; rfl)).trans (by rw [putName_dict])
  have hz : ∀ key hs, (putL name hs key v es).length ≤ 1000 := fun key hs => by
    have l1 := putL_len name hs key v es
    have l2 := cnt_le as
    have l3 := en.len
    have l4 := en.vl
    split at l1 <;> omega
  refine wpAny_bind (wpAny_pure (wpAny_bind (wpAny_bind (wpAny_loadPart p (wpAny_bind (looks_clsIn X hc _ _ _ _ (fun _ _ q => q) ?_))))))
  rw [hd']
  refine wpAny_pure (a := some dx) (wpAny_bind (wpAny_pure (wpAny_bind ?_)))
  unfold nsSet
  refine wpAny_bind (wpAny_bind (wpAny_askSetting (wpAny_pure (wpAny_bind (wpAny_mkText (wpAny_bind (wpAny_loadPart q ?_)))))))
  dsimp only
  have c : (!es.toArray.any (·.key.isStr name) && es.toArray.any (·.refKey)) = false := by
    have : es.toArray.any (·.refKey) = false := by
      rw [List.any_toArray, List.any_eq_false]
      intro d hd
      obtain ⟨n, t, q⟩ := en.key d hd
      simp [DictEntry.refKey, q]
    rw [this, Bool.and_false]
  rw [aRefKeyMayBeTheName_at, c]
  refine wpAny_updatePart q ?_
  refine wpAny_bind (wpAny_lookBehind (Heap.get?_update_self _ q (by rw [putName_dict]; rfl)) (by rw [putName_dict]; exact pastItsLine_dict (by rw [List.size_toArray, sizeLine_eq]; exact Nat.le_trans (hz _ _) (by decide))) ?_)
  exact wpAny_pure (fin _ _ _ ⟨_, rfl⟩)
end
end
end
section
open PySem PySem.W PyProof.Rows PySem.Calls
section
/-- what can be walked over: each item by its place -/
structure Src (w : World) (A : Around) (x : Value) (n : Nat) (P : Nat → Value → Prop) (U : Heap → Prop) : Prop where
  start : ∀ (s : Shared) (Q : Value → Shared → Prop) (E : Value → Shared → Prop), U s.heap →
    (∀ I R h' tk, Itr w A I n P R U → s.heap.objs.size ≤ I → (R 0).ok h' → (∀ b o, s.heap.get? b = some o → h'.get? b = some o) → Q (.ref I) { s with heap := h', toks := tk }) → wpAny (MD w) A (pyIter x) Q E s
theorem Src.list {w : World} {A : Around} (hA : A.handled = none) (a : Addr) (xs : List Value) : Src w A (.ref a) xs.length (fun i v => xs[i]? = some v) (fun h => h.IsList a xs.toArray) := ⟨fun s Q E u k => by
  have hne : a ≠ s.heap.objs.size := by obtain ⟨o, ho, _⟩ := u; exact Nat.ne_of_lt (Heap.lt_size ho)
  exact wpAny_pyIter_list u (k s.heap.objs.size (ITL s.heap.objs.size a) _ s.toks (Itr.list hA _ a hne xs) (Nat.le_refl _) ⟨_, Heap.get?_push_size _ rfl, rfl, rfl⟩ fun _ _ e => Heap.get?_push_of_some _ e)⟩
/-- one object whose data are told by i -/
noncomputable def ITO (I : Addr) (P : Nat → Obj → Prop) (i : Nat) : HP := HP.one I (P i)
theorem Src.tuple {w : World} {A : Around} (hA : A.handled = none) (a : Addr) (xs : List Value) : Src w A (.ref a) xs.length (fun i v => xs[i]? = some v) (fun h => h.IsTuple a xs.toArray) := ⟨fun s Q E u k => by
  have hne : a ≠ s.heap.objs.size := by obtain ⟨o, ho, _⟩ := u; exact Nat.ne_of_lt (Heap.lt_size ho)
  have W := Walks.tuple (prog := PySem.Challenge.pw_ny0433_01) (w := w) hA s.heap.objs.size a hne xs.toArray
  refine wpAny_pyIter_tuple u (k s.heap.objs.size (ITO s.heap.objs.size fun i o => o.cls = .type "tuple_iterator" ∧ o.data = .fields #[.ref a, .int i 0]) _ s.toks ⟨fun _ => rfl, fun i s Q E hi r u k => ?_, fun s Q E r u k => ?_, fun i s Q E r u k => W.self i s Q E ⟨r, u⟩ k, fun i s target v Q E r k => ?_⟩ (Nat.le_refl _) ⟨_, Heap.get?_push_size _ rfl, rfl, rfl⟩ fun _ _ e => Heap.get?_push_of_some _ e)
  · exact W.item i s Q E (by simpa using hi) ⟨r, u⟩ fun v h' tk p st kp => k v h' tk (by simpa using p) st.1 fun b o hb e => kp b o (fun q => hb (List.mem_singleton.mp q)) e
  · exact W.done s Q E (by rw [List.size_toArray]; exact ⟨r, u⟩) fun h' tk kp => k h' tk fun b o hb e => kp b o (fun q => hb (List.mem_singleton.mp q)) e
  · obtain ⟨o, ho, hc, _⟩ := r
    exact goes_plain ho hc (by decide) target v k⟩
theorem Src.range {w : World} {A : Around} (hA : A.handled = none) {r : Addr} {a b c : Int} (hs : Builtin.Range.small a b c = true) : Src w A (.ref r) (Builtin.Range.rangeSize a b c).toNat (fun i x => ∃ t, x = .int (a + i * c) t) (fun h => ∃ t u v, IsRange h r a b c t u v) := ⟨fun s Q E hu k => by
  obtain ⟨t, u, v, hu⟩ := hu
  have W := Walks.range (prog := PySem.Challenge.pw_ny0433_01) (w := w) hA s.heap.objs.size a c (Builtin.Range.rangeSize a b c).toNat
  have h0 : 0 ≤ Builtin.Range.rangeSize a b c := by
    unfold Builtin.Range.rangeSize
    split
    · split
      · exact Int.add_nonneg (Int.ediv_nonneg (by omega) (by omega)) (by omega)
      · omega
    · split
      · exact Int.add_nonneg (Int.ediv_nonneg (by omega) (by omega)) (by omega)
      · omega
  refine wpAny_pyIter_range hu hs (k s.heap.objs.size (ITO s.heap.objs.size fun i o => o = { cls := .type "range_iterator", data := .fields #[rawInt (a + (i : Nat) * c), rawInt (((Builtin.Range.rangeSize a b c).toNat : Int) - (i : Nat)), rawInt c] }) _ s.toks ⟨fun _ => rfl, fun i s Q E hi r u k => ?_, fun s Q E r u k => ?_, fun i s Q E r u k => ?_, fun i s target v Q E r k => ?_⟩ (Nat.le_refl _) ⟨_, Heap.get?_push_size _ rfl, ?_⟩ fun _ _ e => Heap.get?_push_of_some _ e)
  · obtain ⟨o, ho, rfl⟩ := r
    exact W.item i s Q E hi ho fun v h' tk p st kp => k v h' tk p ⟨_, st, rfl⟩ fun b o hb e => kp b o (fun q => hb (List.mem_singleton.mp q)) e
  · obtain ⟨o, ho, rfl⟩ := r
    exact W.done s Q E ho fun h' tk kp => k h' tk fun b o hb e => kp b o (fun q => hb (List.mem_singleton.mp q)) e
  · obtain ⟨o, ho, rfl⟩ := r
    exact W.self i s Q E ho k
  · obtain ⟨o, ho, rfl⟩ := r
    exact goes_plain ho rfl (by decide) target v k
  · show _ = _
    rw [Int.toNat_of_nonneg h0]; simp⟩
/-- a list of values -/
noncomputable def RAW (a : Addr) (xs : List Value) : HP := HP.one a fun o => ∃ n, o = listO xs n
theorem RAW.list {a : Addr} {xs : List Value} {h : Heap} (r : (RAW a xs).ok h) : h.IsList a xs.toArray := let ⟨_, e, n, q⟩ := r; ⟨_, e, by rw [q], n, by rw [q]⟩
/-- values that bear data -/
noncomputable def ALL (xs : List Value) (ds : List PyData) (F : List Addr) : HP where
  foot := F
  ok h := F.Nodup ∧ RxAll h F xs ds
  loc e := fun ⟨n, r⟩ => ⟨n, r.loc e⟩
  lt := fun ⟨_, r⟩ => r.lt
/-- a cell -/
noncomputable def CEL (c : Addr) (v : Option Value) : HP := HP.one c fun o => o.data = .cell v
noncomputable def NSC (c : Addr) : HP where
  foot := [c]
  ok h := ∃ m, h.Ns c m
  loc e := fun ⟨m, o, es, ep, ho, r⟩ => ⟨m, o, es, ep, (e _ (.head _)).trans ho, r⟩
  lt := fun ⟨m, o, es, ep, ho, r⟩ b hb => by cases List.mem_singleton.mp hb; exact ⟨o, ho⟩
theorem Sit.letI {fm : Fm} {vs : Vals} {c : HP} {cs : List HP} {s : Shared} (S : Sit fm vs (cs ++ [c]) s) {I : Addr} {h' : Heap} {t : Nat} (hc : c.foot = [I]) (kp : ∀ b o, b ≠ I → s.heap.get? b = some o → h'.get? b = some o) : Sit fm vs cs { s with heap := h', toks := t } := by
  obtain ⟨m, ns, ag⟩ := S.loc
  obtain ⟨p1, p2, p3⟩ := S.own c (List.mem_append_right _ (.head _))
  rw [hc] at p2 p3
  have ap := List.pairwise_append.mp S.apart
  refine ⟨S.fok, S.gens, S.os, fun x o e q q' => ?_, S.frsOf fun x o hx _ e => kp x o (fun z => (S.frOff (c := c) (List.mem_append_right _ (.head _)) (by rw [hc]; exact .head _)).1 (z ▸ hx)) e, ⟨m, ?_, ag⟩, fun d q => ?_, ap.1⟩
  · refine kp x o (fun z => ?_) (S.ext x o e q q')
    subst z
    exact (p2 x (.head _)).elim (fun z => q z) fun z => absurd (Heap.lt_size e) (Nat.not_lt.mpr z)
  · obtain ⟨o, es, ep, ho, r⟩ := ns
    exact ⟨o, es, ep, kp _ _ (fun z => p3 (z ▸ .head _)) ho, r⟩
  · obtain ⟨q1, q2, q3⟩ := S.own d (List.mem_append_left _ q)
    refine ⟨d.loc (fun x hx => ?_) q1, q2, q3⟩
    obtain ⟨o, e⟩ := d.lt q1 x hx
    rw [e]
    exact kp _ _ (fun z => ap.2.2 d q c (.head _) x hx (by rw [hc, z]; exact .head _)) e
section
variable {w : World} {A : Around} {fm : Fm} {vs : Vals} {cs : List HP} {E : Value → Vals → List HP → Prop}
noncomputable abbrev ForK (w : World) (A : Around) (fm : Fm) (target : Expr) (body : List Stmt) (Q : Flow → Vals → List HP → Prop) (x : Value) (vs : Vals) (cs : List HP) : Prop := E4 fun n P U J => A5 (Src w A x n P U) (J 0 vs cs) (∀ i vs cs s, J i vs cs → Sit fm vs cs s → U s.heap)
      (∀ i v vs cs X, i < n → P i v → J i vs cs → G w A fm (assign target fm.env v) (BodyK w A fm body (Turn J Q i X) NoE) NoE vs (cs ++ [X]))
      (∀ vs cs, J n vs cs → Q .next vs cs)
/-- a for over anything that can be walked over -/
theorem G_For {target iter : Expr} {body : List Stmt} {p : Pos} {Q : Flow → Vals → List HP → Prop}
    (h : G w A fm (eval iter fm.env) (ForK w A fm target body Q) E vs cs)
    (hs : ∀ x, foldedSetIterable iter fm.env x = pure x := by intro _; rfl) : G w A fm (exec (.For target iter body [] p) fm.env) Q E vs cs := fun s S => by
  refine wpAny_For (wpAny_mono (h s S) (fun x s₁ y => ?_) fun _ _ x => x) hs
  obtain ⟨vs₁, cs₁, S₁, n, P, U, J, src, j0, hu, turn, done⟩ := y
  refine src.start s₁ _ _ (hu 0 vs₁ cs₁ s₁ j0 S₁) fun I R h' tk itr hI r0 kp => ?_
  have S₂ : Sit fm vs₁ (cs₁ ++ [R 0]) { s₁ with heap := h', toks := tk } :=
    (S₁.grow1 (c := R 0) (t := tk) kp r0 (fun b hb => by rw [itr.foot] at hb; cases List.mem_singleton.mp hb; exact hI)).perm (cs := [R 0] ++ cs₁) List.perm_append_comm
  refine codeAny_mono (for_core itr J hu S₂ j0 turn done) fun r s' y => ?_
  cases r with
  | ok f => exact y
  | error e => exact y.elim
theorem G_Cell {x : Str} {p : Pos} {v : Value} {c : Addr} {Q : Value → Vals → List HP → Prop} (hk : fm.env.kindOf x = some .cell) (hc : fm.env.cells.lookup x = some c) (hv : ∀ s, Sit fm vs cs s → s.heap.IsCell c (some v)) (hd : (x == ("__debug__" : Str)) = false) (h : Q v vs cs) :
    G w A fm (eval (.Name x p) fm.env) Q E vs cs := fun s S => wpAny_Name (wpAny_loadName_cell S.fok.fk hk hc (hv s S) ⟨vs, cs, S, h⟩) hd
theorem Sit.cel {c : Addr} {v : Option Value} {s : Shared} (S : Sit fm vs cs s) (hm : CEL c v ∈ cs) : s.heap.IsCell c v := (S.own _ hm).1
theorem G_storeCell {x : Str} {v : Value} {c : Addr} {o : Option Value} {Q : Unit → Vals → List HP → Prop} (hk : fm.env.kindOf x = some .cell) (hc : fm.env.cells.lookup x = some c) (h : Q () vs (CEL c (some v) :: cs)) :
    G w A fm (storeName fm.env x v) Q E vs (CEL c o :: cs) := fun s S => by
  refine wpAny_storeName_cell S.fok.fk hk hc (S.cel (.head _)) fun h' hc' sb => ⟨vs, _, S.upd (c' := CEL c (some v)) (t := s.toks) (.head _) sb (fun x q => q) hc', h⟩
/-- an assignment to a name in a cell -/
theorem G_AssignC {x : Str} {p' p : Pos} {value : Expr} {Q : Flow → Vals → List HP → Prop} (h : G w A fm (eval value fm.env) (fun v vs₁ cs₁ => G w A fm (storeName fm.env x v) (fun _ => Q .next) E vs₁ cs₁) E vs cs)
    (hs : swapsWith value (some (.Name x p')) p.line fm.env = pure false) : G w A fm (exec (.Assign [.Name x p'] value p) fm.env) Q E vs cs := fun s S => by
  refine wpAny_Assign_Name (wpAny_mono (h s S) (fun v s₁ x => ?_) fun _ _ x => x) hs
  obtain ⟨v1, c1, S1, g⟩ := x
  exact g s₁ S1
noncomputable abbrev testsOf (ifs : List Expr) (env : Env) : Sem Bool := forIn ifs true fun c r => if r = true then do let ok ← isTrue c env (eval c env); pure (ForInStep.yield ok) else pure (ForInStep.yield r)
theorem G_tests0 {Q : Bool → Vals → List HP → Prop} (h : Q true vs cs) : G w A fm (testsOf [] fm.env) Q E vs cs := fun s S => wpAny_tests_nil ⟨vs, cs, S, h⟩
theorem G_tests1 {c : Expr} {Q : Bool → Vals → List HP → Prop} (h : G w A fm (isTrue c fm.env (eval c fm.env)) Q E vs cs) : G w A fm (testsOf [c] fm.env) Q E vs cs := fun s S => wpAny_tests_one (h s S)
end
theorem codeAny_compLoop_own {w : World} {A : Around} {s : Shared} {elt target iter : Expr} {ifs : List Expr} {scope : Scope} {pos : Pos} {it acc : Value} {env : Env} {R : Result → Shared → Prop} (I : Nat → Shared → Prop)
    (turn : ∀ n s, I n s → wpAny (MD w) A (pyNext it) (fun r s₁ => match r with
      | none => R (.ok .next) s₁
      | some v => wpAny (MD w) A (letOwnedTupleGo target it v) (fun _ s₁' => wpAny (MD w) A (assign target env v) (fun _ s₂ =>
          wpAny (MD w) A (testsOf ifs env) (fun ok s₃ =>
            if ok = true then wpAny (MD w) A (eval elt env) (fun x s₄ =>
              wpAny (MD w) A (call (.builtin "list.append") [acc, x]) (fun _ s₅ => ∃ m, m < n ∧ I m s₅) (fun _ _ => False) s₄) (fun _ _ => False) s₃
            else ∃ m, m < n ∧ I m s₃) (fun _ _ => False) s₂) (fun _ _ => False) s₁') (fun _ _ => False) s₁) (fun _ _ => False) s)
    (n : Nat) (h : I n s) : codeAny (MD w) A (.compLoop (.ListComp elt [⟨target, iter, ifs, 0⟩] scope pos) 0 it acc env) R s := by
  refine codeAny_loop rfl I (fun n s hI => ?_) n h
  show wpAny _ A ((compTurn (.ListComp elt [⟨target, iter, ifs, 0⟩] scope pos) 0 it acc env).onRaise (fun x => do noteFrame x env; theTreesLotGoes x)) _ _ s
  refine wpAny_noted ?_
  rw [compTurn_list]
  refine wpAny_bind (wpAny_standAt (wpAny_bind (wpAny_mono (turn n s hI) (fun r s₁ h₁ => ?_) fun _ _ h' => h'.elim)))
  cases r with
  | none => exact wpAny_pure h₁
  | some v =>
    refine wpAny_bind (wpAny_mono h₁ (fun _ s₁' h₁' => ?_) fun _ _ h' => h'.elim)
    refine wpAny_bind (wpAny_mono h₁' (fun _ s₂ h₂ => wpAny_bind (wpAny_mono h₂ (fun ok s₃ h₃ => ?_) fun _ _ h' => h'.elim)) fun _ _ h' => h'.elim)
    cases ok with
    | false => exact wpAny_pure ⟨rfl, h₃⟩
    | true =>
      exact wpAny_bind (wpAny_bind (wpAny_mono h₃ (fun x s₄ h₄ => wpAny_bind (wpAny_mono h₄ (fun _ s₅ h₅ => wpAny_pure (wpAny_pure ⟨rfl, h₅⟩)) fun _ _ h' => h'.elim)) fun _ _ h' => h'.elim))
end
end
section
open PySem PySem.W PyProof.Rows PySem.Calls
section
noncomputable def scName (K : Frag) (sc : Scope) (p : Str × Value) : Bool := sc.names.lookup p.1 == some .globalImplicit && p.1 != ("__debug__" : Str) && (match nsIn K mainGlobals p.1 with
  | some (some v) => decide (v = p.2)
  | some none => bootBuiltins p.1 == some p.2 && p.1 != ("__name__" : Str)
  | none => false)
noncomputable def scCheck (K : Frag) (sc : Scope) (ns : List Str) (gs : List (Str × Value)) : Bool :=
  sc.kind == .function && decide ns.Nodup && (ns.all fun x => sc.names.lookup x == some .local && x != ("__debug__" : Str)) && gs.all (scName K sc)
structure ScOk (K : Frag) (sc : Scope) (ns : List Str) (gs : List (Str × Value)) : Prop where
  kind : sc.kind = .function
  nd : ns.Nodup
  loc : ∀ x ∈ ns, sc.names.lookup x = some .local
  dbg : ∀ x ∈ ns, (x == ("__debug__" : Str)) = false
  gok : ∀ p ∈ gs, ∀ env : Env, env.scope = sc → GlOk K env p
theorem scOk_of {K : Frag} {sc : Scope} {ns : List Str} {gs : List (Str × Value)} (e : scCheck K sc ns gs = true) : ScOk K sc ns gs := by
  unfold scCheck at e
  simp only [Bool.and_eq_true, beq_iff_eq, decide_eq_true_eq, List.all_eq_true, bne_iff_ne, ne_eq] at e
  obtain ⟨⟨⟨e1, e2⟩, e3⟩, e4⟩ := e
  refine ⟨e1, e2, fun x hx => (e3 x hx).1, fun x hx => beq_eq_false_iff_ne.mpr (e3 x hx).2, fun p hp env he => ?_⟩
  have z := e4 p hp
  unfold scName at z
  simp only [Bool.and_eq_true, beq_iff_eq, bne_iff_ne, ne_eq] at z
  obtain ⟨⟨z1, z2⟩, z3⟩ := z
  refine ⟨by show env.scope.names.lookup _ = _; rw [he]; exact z1, beq_eq_false_iff_ne.mpr z2, ?_⟩
  split at z3
  · rename_i v hv; exact .inl (by rw [hv]; rw [of_decide_eq_true z3])
  · rename_i hv
    simp only [Bool.and_eq_true, beq_iff_eq, bne_iff_ne, ne_eq] at z3
    exact .inr ⟨hv, z3.1, z3.2⟩
  · cases z3
noncomputable abbrev nones (ns : List Str) : Vals := ns.map fun _ => none
theorem agree_nones {m : Str → Option Value} : ∀ ns : List Str, Agree ns (nones ns) m
  | [] => by unfold Agree; trivial
  | _ :: ns => agree_nones ns
/-- the frame of a comprehension -/
noncomputable abbrev CF (fm : Fm) (cs : List HP) (b : Shared) (scope : Scope) (cl : List (Str × Addr)) (C : Addr) (ns : List Str) (gs : List (Str × Value)) : Fm :=
  ⟨fm.K, feet cs, b, compEnvC scope (cellsFrom (C + 1) scope.names cl) C fm.env, ns, gs, fm.gp, fm.fr⟩
noncomputable abbrev cellChunks (l : List (Str × Addr)) : List HP := l.map fun p => CEL p.2 none
theorem Sit.inner {fm : Fm} {vs : Vals} {cs cn : List HP} {s : Shared} {scope : Scope} {cl : List (Str × Addr)} {C : Addr} {ns : List Str} {gs : List (Str × Value)} {h' : Heap} {t : Nat} (S : Sit fm vs cs s) (ok : ScOk fm.K (relabel scope fm.env) ns gs)
    (hC : s.heap.objs.size ≤ C) (hk : ∀ a o, s.heap.get? a = some o → h'.get? a = some o) (hn : ∃ m, h'.Ns C m) (hc : ∀ c ∈ cn, c.ok h' ∧ ∀ a ∈ c.foot, s.heap.objs.size ≤ a ∧ a ≠ C) (ap : cn.Pairwise Apart) :
    Sit (CF fm cs s scope cl C ns gs) (nones ns) (cs ++ cn) { s with heap := h', toks := t } := by
  obtain ⟨m, hn⟩ := hn
  refine ⟨⟨fun p hp => ok.gok p hp _ rfl, S.fok.genv, S.top, fun a ha => ?_, ok.nd, ok.loc, ok.dbg, ok.kind, hC, fun a ha _ => ⟨(S.frH a ha).1, fun q => ?_⟩⟩, S.gens, rfl, fun a o e _ _ => hk a o e, fun a ha _ => ?_, ⟨m, hn, agree_nones ns⟩, fun c q => ?_, ?_⟩
  · obtain ⟨c, hc, ha⟩ := mem_feet.mp ha
    exact S.free hc ha
  · obtain ⟨c, hc, hx⟩ := mem_feet.mp q
    exact (S.frOff hc hx).1 ha
  · obtain ⟨_, o, es, ep, h1, h2⟩ := S.frH a ha
    exact ⟨o, es, ep, o.slots, h1, h2, hk a o h1⟩
  · rcases List.mem_append.mp q with q | q
    · obtain ⟨p1, p2, p3⟩ := S.own c q
      refine ⟨c.loc (fun a ha => by obtain ⟨o, ho⟩ := c.lt p1 a ha; rw [ho]; exact hk _ _ ho) p1, fun a ha => .inl (mem_feet.mpr ⟨c, q, ha⟩), fun z => ?_⟩
      obtain ⟨o, ho⟩ := c.lt p1 _ z
      exact absurd (Heap.lt_size ho) (Nat.not_lt.mpr hC)
    · exact ⟨(hc c q).1, fun a ha => .inr ((hc c q).2 a ha).1, fun z => ((hc c q).2 _ z).2 rfl⟩
  · refine List.pairwise_append.mpr ⟨S.apart, ap, fun c q d q' a z1 z2 => ?_⟩
    obtain ⟨o, ho⟩ := c.lt (S.own c q).1 a z1
    exact absurd (Heap.lt_size ho) (Nat.not_lt.mpr ((hc d q').2 a z2).1)
theorem Sit.old {fm : Fm} {vs : Vals} {cs : List HP} {s : Shared} (S : Sit fm vs cs s) {a : Addr} {o : Obj} (e : fm.b.heap.get? a = some o) (ha : a ∉ fm.F) : a ∉ feet cs := fun q => by
  obtain ⟨c, hc, hx⟩ := mem_feet.mp q
  exact ((S.own c hc).2.1 a hx).elim ha fun z => absurd (Heap.lt_size e) (Nat.not_lt.mpr z)
/-- the frame is left, its names stay for a while -/
theorem Sit.leaveL {fm : Fm} {vs : Vals} {cs₁ : List HP} {s : Shared} (S : Sit fm vs cs₁ s) : Stp fm.gp fm.F fm.fr (NSC fm.env.locals :: cs₁) fm.b s :=
  ⟨fun _ => S.gens, S.os, S.ext, fun a o e q _ => by
    obtain ⟨o', es, ep, sl, h1, h2, h3⟩ := S.frs a q (Nat.ne_of_lt (Nat.lt_of_lt_of_le (Heap.lt_size e) S.fok.base))
    rw [e] at h1; cases h1
    exact ⟨sl, h3⟩, fun c hc => by
    cases hc with
    | head => exact ⟨let ⟨m, n, _⟩ := S.loc; ⟨m, n⟩, fun a ha => by cases List.mem_singleton.mp ha; exact .inr S.fok.base⟩
    | tail _ hc => exact ⟨(S.own c hc).1, (S.own c hc).2.1⟩, List.pairwise_cons.mpr ⟨fun d hd a ha => by cases List.mem_singleton.mp ha; exact (S.own d hd).2.2, S.apart⟩⟩
theorem pushCells_size : ∀ (names : List (Str × NameKind)) (h : Heap), h.objs.size ≤ (pushCells h names).objs.size
  | [], _ => Nat.le_refl _
  | (_, kind) :: r, h => by
    unfold pushCells
    split
    · exact Nat.le_trans (by rw [Heap.size_push]; omega) (pushCells_size r _)
    · exact pushCells_size r h
theorem cellsFrom_app : ∀ (names : List (Str × NameKind)) (n : Nat) (acc : List (Str × Addr)), cellsFrom n names acc = cellsFrom n names [] ++ acc
  | [], _, _ => rfl
  | (x, kind) :: r, n, acc => by
    unfold cellsFrom
    split
    · rw [cellsFrom_app r (n + 1) ((x, n) :: acc), cellsFrom_app r (n + 1) [(x, n)], List.append_assoc]; rfl
    · exact cellsFrom_app r n acc
section
variable {w : World} {A : Around} {fm : Fm} {vs : Vals} {cs : List HP} {E : Value → Shared → Prop}
theorem comp_core {elt target iter : Expr} {ifs : List Expr} {scope : Scope} {pos : Pos} {cl : List (Str × Addr)} {ns : List Str} {gs : List (Str × Value)} {use : Option (Value → Sem Unit)} {Q : Value → Shared → Prop} {s : Shared} {x : Value} {n : Nat} {P : Nat → Value → Prop} {U : Heap → Prop}
    (J : Addr → Nat → List Value → Vals → List HP → Prop) (S : Sit fm vs cs s) (src : Src w A x n P U) (hn : n ≤ sizeLine) (ok : ScOk fm.K (relabel scope fm.env) ns gs) (hu0 : U s.heap)
    (j0 : ∀ C, J C 0 [] (nones ns) (cs ++ cellChunks (cellsFrom (C + 1) scope.names [])))
    (hu : ∀ C b i ys vs' cs' s', Sit fm vs cs b → J C i ys vs' cs' → Sit (CF fm cs b scope cl C ns gs) vs' cs' s' → U s'.heap)
    (turn : ∀ C b i v ys vs' cs' Y X, Sit fm vs cs b → i < n → P i v → J C i ys vs' cs' → G w A (CF fm cs b scope cl C ns gs) (assign target (CF fm cs b scope cl C ns gs).env v) (fun _ vs₁ cs₁ => G w A (CF fm cs b scope cl C ns gs) (testsOf ifs (CF fm cs b scope cl C ns gs).env) (fun ok vs₁ cs₁ =>
        bif ok then G w A (CF fm cs b scope cl C ns gs) (eval elt (CF fm cs b scope cl C ns gs).env) (fun y vs₂ cs₂ => ∃ cs₃, (cs₃ ++ [Y, X]).Perm cs₂ ∧ J C (i + 1) (ys ++ [y]) vs₂ cs₃) NoE vs₁ cs₁
        else ∃ cs₃, (cs₃ ++ [Y, X]).Perm cs₁ ∧ J C (i + 1) ys vs₁ cs₃) NoE vs₁ cs₁) NoE vs' (cs' ++ [Y, X]))
    (done : ∀ D C ys vs' cs' s', J C n ys vs' cs' → Sit fm vs (RAW D ys :: NSC C :: cs') s' → compPost (MD w) A E use Q (.ref D) C (.ok .next) s') :
    wpAny (MD w) A (pyIter x) (fun it s₂ => wpAny (MD w) A (newList []) (fun acc s₃ => wpAny (MD w) A (newFunctionEnv scope fm.env.globals cl [] fm.env.qual none .none (some fm.env)) (fun cenv s₄ =>
      codeAny (MD w) A (.compStart (.ListComp elt [⟨target, iter, ifs, 0⟩] scope pos) 0 it acc { cenv with scope := relabel scope fm.env }) (compPost (MD w) A E use Q acc cenv.locals) s₄) E s₃) E s₂) E s := by
  refine src.start s _ _ hu0 fun I R h' tk itr hI r0 kp => ?_
  refine wpAny_newObj_type ?_
  simp only [newFunctionEnv, Option.isSome_some, if_true]
  refine wpAny_bind (wpAny_alloc (wpAny_bind (wpAny_layCells _ (fun name kind cells => by cases hkc : kind == NameKind.cell <;> simp [hkc]) _ _ _ _ (wpAny_bind (wpAny_pure (wpAny_pure ?_))))))
  dsimp only
  generalize hH1 : h'.push _ = H1
  generalize hH2 : H1.push _ = H2
  have sz1 : H1.objs.size = h'.objs.size + 1 := by rw [← hH1, Heap.size_push]
  have sz2 : H2.objs.size = h'.objs.size + 2 := by rw [← hH2, Heap.size_push, sz1]
  have sz0 : s.heap.objs.size ≤ h'.objs.size := by
    have := pushCells_size [] h'
    rcases Nat.lt_or_ge h'.objs.size s.heap.objs.size with q | q
    · exfalso
      have hIlt : @LT.lt Nat _ I h'.objs.size := by
        obtain ⟨o, e⟩ := (R 0).lt r0 I (by rw [itr.foot]; exact .head _)
        exact Heap.lt_size e
      exact absurd hIlt (Nat.not_lt.mpr (Nat.le_trans (Nat.le_of_lt q) hI))
    · exact q
  have cok := cellsFrom_ok scope.names H2 (H1.objs.size + 1) [] ⟨fun _ _ hm => (nomatch hm), List.Pairwise.nil⟩ (by rw [sz2, sz1]; exact Nat.le_refl _)
  rw [show H2.objs.size = H1.objs.size + 1 by rw [sz2, sz1]] at cok ⊢
  generalize hH3 : pushCells H2 scope.names = H3 at cok ⊢
  have k01 : ∀ b o, h'.get? b = some o → H1.get? b = some o := fun b o e => hH1 ▸ Heap.get?_push_of_some _ e
  have k12 : ∀ b o, H1.get? b = some o → H2.get? b = some o := fun b o e => hH2 ▸ Heap.get?_push_of_some _ e
  have k23 : ∀ b o, H2.get? b = some o → H3.get? b = some o := fun b o e => hH3 ▸ pushCells_keeps _ _ b o e
  have k13 : ∀ b o, H1.get? b = some o → H3.get? b = some o := fun b o e => k23 b o (k12 b o e)
  have k03 : ∀ b o, h'.get? b = some o → H3.get? b = some o := fun b o e => k13 b o (k01 b o e)
  have hIlt : @LT.lt Nat _ I h'.objs.size := by
    obtain ⟨o, e⟩ := (R 0).lt r0 I (by rw [itr.foot]; exact .head _)
    exact Heap.lt_size e
  have nsC : H3.Ns H1.objs.size (fun _ => none) := (hH2 ▸ Heap.Ns.new H1 (.type "dict")).keeps k23
  have rawD : (RAW h'.objs.size []).ok H3 := ⟨_, k13 _ _ (hH1 ▸ Heap.get?_push_size _ rfl), 0, rfl⟩
  have r03 : (R 0).ok H3 := (R 0).loc (fun a ha => by obtain ⟨o, e⟩ := (R 0).lt r0 a ha; rw [e]; exact k03 _ _ e) r0
  have S3 := S.inner (scope := scope) (cl := cl) (C := H1.objs.size) (ns := ns) (gs := gs) (h' := H3) (t := tk) (cn := cellChunks (cellsFrom (H1.objs.size + 1) scope.names []) ++ [RAW h'.objs.size [], R 0]) ok (by omega) (fun a o e => k03 _ _ (kp a o e)) ⟨_, nsC⟩
    (fun c hc => by
      rcases List.mem_append.mp hc with q | q
      · obtain ⟨p, hp, rfl⟩ := List.mem_map.mp q
        have z := cok.empty p.1 p.2 hp
        exact ⟨z.1, fun a ha => by cases List.mem_singleton.mp ha; exact ⟨by omega, Nat.ne_of_gt (by omega)⟩⟩
      · cases q with
        | head => exact ⟨rawD, fun a ha => by cases List.mem_singleton.mp ha; exact ⟨sz0, Nat.ne_of_lt (by omega)⟩⟩
        | tail _ q => cases List.mem_singleton.mp q; exact ⟨r03, fun a ha => by rw [itr.foot] at ha; cases List.mem_singleton.mp ha; exact ⟨hI, Nat.ne_of_lt (by omega)⟩⟩)
    (by
      refine List.pairwise_append.mpr ⟨List.pairwise_map.mpr (cok.apart.imp fun {p q} z a ha hb => ?_), ?_, fun c hc d hd a ha hb => ?_⟩
      · cases List.mem_singleton.mp ha; exact z (List.mem_singleton.mp hb)
      · refine List.pairwise_cons.mpr ⟨fun d hd a ha hb => ?_, List.pairwise_singleton _ _⟩
        cases List.mem_singleton.mp hd
        rw [itr.foot] at hb
        cases List.mem_singleton.mp ha
        exact absurd (List.mem_singleton.mp hb) (Nat.ne_of_gt (by omega))
      · obtain ⟨p, hp, rfl⟩ := List.mem_map.mp hc
        have z := (cok.empty p.1 p.2 hp).2
        cases List.mem_singleton.mp ha
        cases hd with
        | head => exact absurd (List.mem_singleton.mp hb) (Nat.ne_of_gt (by omega))
        | tail _ q => cases List.mem_singleton.mp q; rw [itr.foot] at hb; exact absurd (List.mem_singleton.mp hb) (Nat.ne_of_gt (by omega)))
  generalize hC : H1.objs.size = C at S3 nsC ⊢
  generalize hD : h'.objs.size = D at S3 ⊢
  have loop : codeAny (MD w) A (.compLoop (.ListComp elt [⟨target, iter, ifs, 0⟩] scope pos) 0 (.ref I) (.ref D) (CF fm cs s scope cl C ns gs).env) (compPost (MD w) A E use Q (.ref D) C) { s with heap := H3, toks := tk } := by
    refine codeAny_compLoop_own (fun k s' => ∃ i ys vs' cs', k = n - i ∧ i ≤ n ∧ ys.length ≤ i ∧ J C i ys vs' cs' ∧ Sit (CF fm cs s scope cl C ns gs) vs' (cs' ++ [RAW D ys, R i]) s') ?_ (n - 0) ⟨0, [], _, _, rfl, Nat.zero_le _, Nat.le_refl _, j0 C, ?_⟩
    · rintro k s' ⟨i, ys, vs', cs', rfl, hi, hl, hJ, S'⟩
      have hr : (R i).ok s'.heap := (S'.own _ (List.mem_append_right _ (.tail _ (.head _)))).1
      have hU : U s'.heap := hu C s i ys vs' cs' s' S hJ (S'.sub (List.sublist_append_left _ _))
      rcases Nat.lt_or_ge i n with hlt | hge
      · refine itr.item i s' _ _ hlt hr hU fun v h₁ tk₁ p r' kp' => ?_
        have S₁ : Sit (CF fm cs s scope cl C ns gs) vs' (cs' ++ [RAW D ys] ++ [R (i + 1)]) { s' with heap := h₁, toks := tk₁ } := Sit.updL (cs := cs' ++ [RAW D ys]) (by rw [List.append_assoc]; exact S') (itr.foot i) (itr.foot (i + 1)) kp' r'
        rw [List.append_assoc] at S₁
        dsimp only
        refine itr.goes (i + 1) _ target v _ _ r' ?_
        refine wpAny_mono (turn C s i v ys vs' cs' (RAW D ys) (R (i + 1)) S hlt p hJ _ S₁) (fun _ s₂ y => ?_) fun _ _ ⟨_, _, _, z⟩ => z.elim
        obtain ⟨vs₂, cs₂, S₂, g⟩ := y
        refine wpAny_mono (g s₂ S₂) (fun b s₃ y => ?_) fun _ _ ⟨_, _, _, z⟩ => z.elim
        obtain ⟨vs₃, cs₃, S₃, g⟩ := y
        cases b with
        | false =>
          rw [if_neg (by decide)]
          obtain ⟨cs₄, pm, j⟩ := g
          exact ⟨n - (i + 1), by omega, i + 1, ys, vs₃, cs₄, rfl, hlt, by omega, j, S₃.perm pm⟩
        | true =>
          rw [if_pos rfl]
          refine wpAny_mono (g s₃ S₃) (fun y s₄ z => ?_) fun _ _ ⟨_, _, _, z⟩ => z.elim
          obtain ⟨vs₄, cs₄, S₄, cs₅, pm, j⟩ := z
          have S₅ := (S₄.perm pm).perm (cs' := RAW D ys :: (cs₅ ++ [R (i + 1)])) (by
            have : (cs₅ ++ [RAW D ys, R (i + 1)]).Perm (RAW D ys :: (cs₅ ++ [R (i + 1)])) := List.perm_middle
            exact this.symm)
          obtain ⟨ob, eo, nn, rfl⟩ := (S₅.own _ (.head _)).1
          refine wpAny_list_append_plain (items := ys.toArray) ⟨nn, eo⟩ (fun h₂ il sb => ?_) (by rw [List.size_toArray]; omega)
          obtain ⟨n2, e2⟩ := il
          have S₆ := S₅.upd (c' := RAW D (ys ++ [y])) (t := s₄.toks) (.head _) sb (fun _ q => q) ⟨_, e2, n2, by simp [listO]⟩
          refine ⟨n - (i + 1), by omega, i + 1, ys ++ [y], vs₄, cs₅, rfl, hlt, by rw [List.length_append]; simp; omega, j, S₆.perm List.perm_middle⟩
      · have : i = n := Nat.le_antisymm hi hge
        subst this
        refine itr.done s' _ _ hr hU fun h₁ tk₁ kp' => ?_
        dsimp only
        have S₁ : Sit (CF fm cs s scope cl C ns gs) vs' (cs' ++ [RAW D ys]) { s' with heap := h₁, toks := tk₁ } := Sit.letI (cs := cs' ++ [RAW D ys]) (c := R i) (by rw [List.append_assoc]; exact S') (itr.foot i) kp'
        have S₂ := (S₁.perm (cs' := RAW D ys :: cs') (List.perm_append_comm (l₁ := [RAW D ys]))).leaveL
        have S₃ := Sit.call (fm := fm) (vs := vs) (cs₀ := cs) (rest := []) (by rw [List.append_nil]; exact S) S₂
        rw [List.append_nil] at S₃
        exact done D C ys vs' cs' _ hJ (S₃.perm (.swap _ _ _))
    · rw [List.append_assoc]; exact S3
  rw [← hC] at loop
  refine codeAny_compStart_list (by rw [← hC] at *; exact loop) (itr.self 0 _ _ _ r03 (hu C s 0 [] _ _ _ S (j0 C) ?_) (by rw [← hC] at *; exact loop))
  exact (S3.sub (by rw [← List.append_assoc]; exact List.sublist_append_left _ _))
end
end
end
section
open PySem PySem.W PyProof.Rows PySem.Calls
section
section
variable {w : World} {A : Around} {fm : Fm} {vs : Vals} {cs : List HP} {E : Value → Vals → List HP → Prop}
/-- what is to be shown of a comprehension, once what it runs over is at hand -/
structure CmpOk (w : World) (A : Around) (fm : Fm) (elt target : Expr) (ifs : List Expr) (scope : Scope) (cl : List (Str × Addr)) (ns : List Str) (gs : List (Str × Value)) (x : Value) (vs : Vals) (cs : List HP) (Fin : List Value → List HP → Prop) (n : Nat) (P : Nat → Value → Prop) (U : Heap → Prop)
    (J : Addr → Nat → List Value → Vals → List HP → Prop) : Prop where
  src : Src w A x n P U
  small : n ≤ sizeLine
  use0 : ∀ s, Sit fm vs cs s → U s.heap
  start : ∀ C, J C 0 [] (nones ns) (cs ++ cellChunks (cellsFrom (C + 1) scope.names []))
  use : ∀ C b i ys vs' cs' s', Sit fm vs cs b → J C i ys vs' cs' → Sit (CF fm cs b scope cl C ns gs) vs' cs' s' → U s'.heap
  turn : ∀ C b i v ys vs' cs' Y X, Sit fm vs cs b → i < n → P i v → J C i ys vs' cs' → G w A (CF fm cs b scope cl C ns gs) (assign target (CF fm cs b scope cl C ns gs).env v) (fun _ vs₁ cs₁ => G w A (CF fm cs b scope cl C ns gs) (testsOf ifs (CF fm cs b scope cl C ns gs).env) (fun ok vs₁ cs₁ =>
        bif ok then G w A (CF fm cs b scope cl C ns gs) (eval elt (CF fm cs b scope cl C ns gs).env) (fun y vs₂ cs₂ => ∃ cs₃, (cs₃ ++ [Y, X]).Perm cs₂ ∧ J C (i + 1) (ys ++ [y]) vs₂ cs₃) NoE vs₁ cs₁
        else ∃ cs₃, (cs₃ ++ [Y, X]).Perm cs₁ ∧ J C (i + 1) ys vs₁ cs₃) NoE vs₁ cs₁) NoE vs' (cs' ++ [Y, X])
  done : ∀ C ys vs' cs', J C n ys vs' cs' → Fin ys cs'
theorem Sit.nsc {c : Addr} {s : Shared} (S : Sit fm vs cs s) (hm : NSC c ∈ cs) : ∃ m, s.heap.Ns c m := (S.own _ hm).1
theorem G_ListComp {elt target iter : Expr} {ifs : List Expr} {scope : Scope} {pos : Pos} {cl : List (Str × Addr)} {Q : Value → Vals → List HP → Prop} (ns : List Str) (gs : List (Str × Value))
    (h : G w A fm (eval iter fm.env) (fun x vs cs => E5 fun Fin n P U J => CmpOk w A fm elt target ifs scope cl ns gs x vs cs Fin n P U J ∧ ∀ D ys cs', Fin ys cs' → Q (.ref D) vs (RAW D ys :: cs')) E vs cs)
    (ok : ScOk fm.K (relabel scope fm.env) ns gs) (hclos : closureFor scope fm.env = pure cl) (hkind : scope.kind = .function) (hnames : ∀ y ∈ scope.names, y.2 = .local → scope.names.lookup y.1 = some .local)
    (hs : ∀ x, foldedSetIterable iter fm.env x = pure x := by intro _; rfl) :
    G w A fm (eval (.ListComp elt [⟨target, iter, ifs, 0⟩] scope pos) fm.env) Q E vs cs := fun s S => by
  rw [eval_ListComp]
  refine wpAny_comprehension_free (use := none) rfl hs hclos hkind hnames (wpAny_mono (h s S) (fun x s₁ y => ?_) fun _ _ e => e)
  obtain ⟨vs₁, cs₁, S₁, Fin, n, P, U, J, c, fin⟩ := y
  refine comp_core J S₁ c.src c.small ok (c.use0 s₁ S₁) c.start c.use c.turn fun D C ys vs' cs' s' j S' => ?_
  obtain ⟨m, hn⟩ := S'.nsc (.tail _ (.head _))
  refine ⟨m, hn, fun h' sb => ⟨vs₁, RAW D ys :: cs', ?_, fin D ys cs' (c.done C ys vs' cs' j)⟩⟩
  exact Sit.letI (cs := RAW D ys :: cs') (c := NSC C) (t := s'.toks) (S'.perm (by
    have : (RAW D ys :: cs' ++ [NSC C]).Perm (NSC C :: RAW D ys :: cs') := List.perm_append_comm (l₂ := [NSC C])
    exact this.trans (.swap _ _ _))) rfl fun b o hb e => (sb.2 b hb).trans e
theorem G_AssignLC {elt target iter : Expr} {y : Str} {py spos : Pos} {ifs : List Expr} {scope : Scope} {pos : Pos} {cl : List (Str × Addr)} {Q : Flow → Vals → List HP → Prop} (ns : List Str) (gs : List (Str × Value))
    (h : G w A fm (eval iter fm.env) (fun x vs cs => E5 fun Fin n P U J => CmpOk w A fm elt target ifs scope cl ns gs x vs cs Fin n P U J ∧ ∀ D ys cs', Fin ys cs' → ASG fm.ns y (Q .next) (.ref D) vs (RAW D ys :: cs')) E vs cs)
    (hsw : swapsWith (.ListComp elt [⟨target, iter, ifs, 0⟩] scope pos) (some (.Name y py)) spos.line fm.env = pure true)
    (ok : ScOk fm.K (relabel scope fm.env) ns gs) (hclos : closureFor scope fm.env = pure cl) (hkind : scope.kind = .function) (hnames : ∀ y ∈ scope.names, y.2 = .local → scope.names.lookup y.1 = some .local)
    (hs : ∀ x, foldedSetIterable iter fm.env x = pure x := by intro _; rfl) :
    G w A fm (exec (.Assign [.Name y py] (.ListComp elt [⟨target, iter, ifs, 0⟩] scope pos) spos) fm.env) Q E vs cs := fun s S => by
  rw [exec_Assign_Name_used _ _ _ _ hsw]
  refine wpAny_bind (wpAny_standAt (wpAny_bind ?_))
  show wpAny _ A (do let _ ← comprehension (.ListComp elt [⟨target, iter, ifs, 0⟩] scope pos) scope fm.env _ (newList []) false (eval iter fm.env) (some (assign (.Name y py) fm.env))) _ _ s
  refine wpAny_bind (wpAny_mono (wpAny_comprehension_free (use := some (assign (.Name y py) fm.env)) (Q := fun _ s' => At fm (Q .next) s') rfl hs hclos hkind hnames (wpAny_mono (h s S) (fun x s₁ y => ?_) fun _ _ e => e)) (fun _ s' hq => wpAny_pure (wpAny_pure hq)) fun _ _ e => e)
  obtain ⟨vs₁, cs₁, S₁, Fin, n, P, U, J, c, fin⟩ := y
  refine comp_core J S₁ c.src c.small ok (c.use0 s₁ S₁) c.start c.use c.turn fun D C ys vs' cs' s' j S' => ?_
  obtain ⟨vs₂, put, q⟩ := fin D ys cs' (c.done C ys vs' cs' j)
  refine wpAny_mono (G_aName (E := E) (Q := fun _ vs cs => vs = vs₂ ∧ cs = RAW D ys :: NSC C :: cs') put ⟨rfl, rfl⟩ s' S') (fun _ s₂ z => ?_) fun _ _ e => e
  obtain ⟨_, _, S₂, rfl, rfl⟩ := z
  obtain ⟨m, hn⟩ := S₂.nsc (.tail _ (.head _))
  refine ⟨m, hn, fun h' sb => ⟨_, RAW D ys :: cs', ?_, q⟩⟩
  exact Sit.letI (cs := RAW D ys :: cs') (c := NSC C) (t := s₂.toks) (S₂.perm (by
    have : (RAW D ys :: cs' ++ [NSC C]).Perm (NSC C :: RAW D ys :: cs') := List.perm_append_comm (l₂ := [NSC C])
    exact this.trans (.swap _ _ _))) rfl fun b o hb e => (sb.2 b hb).trans e
end
section
variable {α : Type} {w : World} {A : Around} {fm : Fm} {vs : Vals} {cs : List HP} {E : Value → Vals → List HP → Prop} {t : Sem α} {Q : α → Vals → List HP → Prop} {a b c d e f : HP}
/-- a part is brought to the front -/
theorem G_p1 (h : G w A fm t Q E vs (b :: a :: cs)) : G w A fm t Q E vs (a :: b :: cs) := G_perm (.swap _ _ _) h
theorem G_p2 (h : G w A fm t Q E vs (c :: a :: b :: cs)) : G w A fm t Q E vs (a :: b :: c :: cs) := G_perm (List.perm_middle (l₁ := [a, b])).symm h
theorem G_p3 (h : G w A fm t Q E vs (d :: a :: b :: c :: cs)) : G w A fm t Q E vs (a :: b :: c :: d :: cs) := G_perm (List.perm_middle (l₁ := [a, b, c])).symm h
theorem G_p4 (h : G w A fm t Q E vs (e :: a :: b :: c :: d :: cs)) : G w A fm t Q E vs (a :: b :: c :: d :: e :: cs) := G_perm (List.perm_middle (l₁ := [a, b, c, d])).symm h
theorem G_p5 (h : G w A fm t Q E vs (f :: a :: b :: c :: d :: e :: cs)) : G w A fm t Q E vs (a :: b :: c :: d :: e :: f :: cs) := G_perm (List.perm_middle (l₁ := [a, b, c, d, e])).symm h
end
/-- a def with cells -/
theorem SpecP.of_bodyC {gp : GP} {w : World} {K : Frag} {k : Nat} {f : Addr} {fd : FuncData} {ns : List Str} {gs : List (Str × Value)} {vals : List Value} {B : Heap → Prop} {cs₀ : List HP} {Post : Value → List HP → Prop} {body : List Stmt} {binds : List (Str × Value)} {vs₀ : Vals} {cells : Nat → List (Str × Addr)} {cc : Nat → List HP}
    (ok : FnOk K f fd ns gs) (hb : fd.body = .stmts body) (hbind : bindArgs fd ⟨vals, []⟩ = pure binds) (hclo : fd.closure = [])
    (hcells : ∀ L, cellsFrom L fd.scope.names [] = cells L) (hlook : ∀ L, ∀ p ∈ cells L, (cells L).lookup p.1 = some p.2)
    (hkind : ∀ x ∈ binds, fd.scope.names.lookup x.1 = some .local ∨ (fd.scope.names.lookup x.1 = some .cell ∧ ∀ L, ((cells L).lookup x.1).isSome = true))
    (hgl : ∀ p ∈ gs, ∀ L, GlOk K (callEnvC fd L f) p)
    (hv : Agree ns vs₀ (bindL (fun x => fd.scope.names.lookup x) binds fun _ => none))
    (hcc : ∀ L, (cells L).map (fun p => CEL p.2 (bindC (fun x => fd.scope.names.lookup x) binds (fun _ => none) p.1)) = cc L)
    (h : ∀ A b, Rm A k → TP K b.heap → B b.heap → G w A ⟨K, feet cs₀, b, callEnvC fd b.heap.objs.size f, ns, gs, gp, frOf A⟩ (execs body (callEnvC fd b.heap.objs.size f)) (Out Post) (fun _ _ _ => False) vs₀ (cc (b.heap.objs.size + 1) ++ cs₀)) :
    SpecP gp w K (k + 1) (.ref f) ⟨vals, []⟩ B cs₀ Post := by
  intro A s hA T hH hG hB O
  refine codeAny_call_cells (fd := fd) (body := body) (binds := binds) (by have := hA.depth; omega) (T.kin _ _ ok.look) rfl T.lim (codeRec_of T.kin ok.code) hb hbind hclo (fun x hx => (hkind x hx).imp id fun z => ⟨z.1, by rw [hcells]; exact z.2 _⟩) (fun s₁ x => ?_) ok.co ok.gen ok.kind
  obtain ⟨⟨h₁, tk, rfl⟩, hns, hk, hfr⟩ := x.toInCall
  have ce : (callEnvC fd s.heap.objs.size f).cells = cells (s.heap.objs.size + 1) := hcells _
  have xc := x.cell
  have xa := x.apart
  have xb := x.above
  rw [ce] at xc xa xb
  have S : Sit ⟨K, feet cs₀, s, callEnvC fd s.heap.objs.size f, ns, gs, gp, frOf (A.deeper (callEnvC fd s.heap.objs.size f))⟩ vs₀ (cc (s.heap.objs.size + 1) ++ cs₀) { s with heap := h₁, toks := tk } := by
    refine ⟨⟨fun p hp => hgl p hp _, ⟨ok.glob, ok.bui⟩, T, fun a ha => ?_, ok.nd, fun x hx => ok.loc x hx, ok.dbg, ok.kind, Nat.le_refl _, fun a ha hn => ⟨(hH a (frOf_deeper rfl ha hn)).1, own_fr O (frOf_deeper rfl ha hn)⟩⟩, hG, rfl, fun a o e _ _ => hk a o e, frs_new hH hk fun a ha hn => frOf_deeper rfl ha hn, ⟨_, hns, hv⟩, fun c hc => ?_, ?_⟩
    · obtain ⟨c, hc, ha⟩ := mem_feet.mp ha
      exact ((O.own c hc).2 a ha).1
    · rcases List.mem_append.mp hc with hc | hc
      · rw [← hcc] at hc
        obtain ⟨p, hp, rfl⟩ := List.mem_map.mp hc
        have ab : @LT.lt Nat _ s.heap.objs.size p.2 := xb p.1 p.2 hp
        refine ⟨xc p.1 p.2 (hlook _ p hp), fun a ha => by cases List.mem_singleton.mp ha; exact .inr (Nat.le_of_lt ab), fun z => ?_⟩
        have : s.heap.objs.size = p.2 := List.mem_singleton.mp z
        exact absurd ab (by rw [this]; exact Nat.lt_irrefl _)
      · refine ⟨c.loc (fun a ha => ?_) (O.own c hc).1, fun a ha => .inl (mem_feet.mpr ⟨c, hc, ha⟩), fun z => ?_⟩
        · obtain ⟨o, ho⟩ := c.lt (O.own c hc).1 a ha
          rw [ho]; exact hk _ _ ho
        · obtain ⟨o, ho⟩ := c.lt (O.own c hc).1 _ z
          exact absurd (Heap.lt_size ho) (Nat.lt_irrefl _)
    · refine List.pairwise_append.mpr ⟨?_, O.apart, fun c hc d hd a h1 h2 => ?_⟩
      · rw [← hcc]
        exact List.pairwise_map.mpr (xa.imp fun {p q} z a h1 h2 => by cases List.mem_singleton.mp h1; exact z (List.mem_singleton.mp h2))
      · rw [← hcc] at hc
        obtain ⟨p, hp, rfl⟩ := List.mem_map.mp hc
        cases List.mem_singleton.mp h1
        have ab : @LT.lt Nat _ s.heap.objs.size p.2 := xb p.1 p.2 hp
        obtain ⟨o, ho⟩ := d.lt (O.own d hd).1 _ h2
        exact absurd (Heap.lt_size ho) (Nat.not_lt.mpr (Nat.le_of_lt ab))
  refine wpAny_mono (h (A.deeper (callEnvC fd s.heap.objs.size f)) s hA.deeper T hB _ S) (fun fl s' x => ?_) fun e s' x => ?_
  · obtain ⟨vs', cs', S', cs₁, junk, p, q⟩ := x
    exact ⟨_, cs₁, rfl, (S'.perm p).leave fun a ha hn => frOf_deeper rfl ha hn, q⟩
  · obtain ⟨_, _, _, z⟩ := x
    exact z.elim
theorem Spec.of_bodyC {w : World} {K : Frag} {k : Nat} {f : Addr} {fd : FuncData} {ns : List Str} {gs : List (Str × Value)} {vals : List Value} {B : Heap → Prop} {cs₀ : List HP} {Post : Value → List HP → Prop} {body : List Stmt} {binds : List (Str × Value)} {vs₀ : Vals} {cells : Nat → List (Str × Addr)} {cc : Nat → List HP}
    (ok : FnOk K f fd ns gs) (hb : fd.body = .stmts body) (hbind : bindArgs fd ⟨vals, []⟩ = pure binds) (hclo : fd.closure = [])
    (hcells : ∀ L, cellsFrom L fd.scope.names [] = cells L) (hlook : ∀ L, ∀ p ∈ cells L, (cells L).lookup p.1 = some p.2)
    (hkind : ∀ x ∈ binds, fd.scope.names.lookup x.1 = some .local ∨ (fd.scope.names.lookup x.1 = some .cell ∧ ∀ L, ((cells L).lookup x.1).isSome = true))
    (hgl : ∀ p ∈ gs, ∀ L, GlOk K (callEnvC fd L f) p)
    (hv : Agree ns vs₀ (bindL (fun x => fd.scope.names.lookup x) binds fun _ => none))
    (hcc : ∀ L, (cells L).map (fun p => CEL p.2 (bindC (fun x => fd.scope.names.lookup x) binds (fun _ => none) p.1)) = cc L)
    (h : ∀ gp A b, Rm A k → TP K b.heap → B b.heap → G w A ⟨K, feet cs₀, b, callEnvC fd b.heap.objs.size f, ns, gs, gp, frOf A⟩ (execs body (callEnvC fd b.heap.objs.size f)) (Out Post) (fun _ _ _ => False) vs₀ (cc (b.heap.objs.size + 1) ++ cs₀)) :
    Spec w K (k + 1) (.ref f) ⟨vals, []⟩ B cs₀ Post := fun gp => SpecP.of_bodyC ok hb hbind hclo hcells hlook hkind hgl hv hcc (h gp)
end
end
section
open PySem PySem.W PyProof.Rows PySem.Calls
section
theorem mem0 {c : HP} {cs : List HP} : c ∈ c :: cs := .head _
theorem memS {c d : HP} {cs : List HP} (h : c ∈ cs) : c ∈ d :: cs := .tail _ h
theorem SpecP.conv {gp : GP} {w : World} {K : Frag} {k : Nat} {f : Value} {args : Args} {B : Heap → Prop} {cs₀ : List HP} {Post Post' : Value → List HP → Prop} (hs : SpecP gp w K k f args B cs₀ Post)
    (c : ∀ v cs₁ h, Post v cs₁ → (∀ c ∈ cs₁, c.ok h) → cs₁.Pairwise Apart → ∃ cs₂, Post' v cs₂ ∧ (∀ c ∈ cs₂, c.ok h) ∧ cs₂.Pairwise Apart ∧ ∀ x ∈ feet cs₂, x ∈ feet cs₁) : SpecP gp w K k f args B cs₀ Post' := fun A s hA T hH hG hB O =>
  codeAny_mono (hs A s hA T hH hG hB O) fun r s' ⟨v, cs₁, e, st, p⟩ => by
    obtain ⟨cs₂, q1, q2, q3, q4⟩ := c v cs₁ s'.heap p (fun c hc => (st.own c hc).1) st.apart
    refine ⟨v, cs₂, e, ⟨st.gens, st.os, st.ext, st.frs, fun d hd => ⟨q2 d hd, fun a ha => ?_⟩, q3⟩, q1⟩
    obtain ⟨d', hd', ha'⟩ := mem_feet.mp (q4 a (mem_feet.mpr ⟨d, hd, ha⟩))
    exact (st.own d' hd').2 a ha'
theorem Spec.conv {w : World} {K : Frag} {k : Nat} {f : Value} {args : Args} {B : Heap → Prop} {cs₀ : List HP} {Post Post' : Value → List HP → Prop} (hs : Spec w K k f args B cs₀ Post)
    (c : ∀ v cs₁ h, Post v cs₁ → (∀ c ∈ cs₁, c.ok h) → cs₁.Pairwise Apart → ∃ cs₂, Post' v cs₂ ∧ (∀ c ∈ cs₂, c.ok h) ∧ cs₂.Pairwise Apart ∧ ∀ x ∈ feet cs₂, x ∈ feet cs₁) : Spec w K k f args B cs₀ Post' := fun gp => (hs gp).conv c
noncomputable def sel (p : PyData → Bool) : List Value → List PyData → List Value
  | v :: vs, d :: ds => if p d = true then v :: sel p vs ds else sel p vs ds
  | _, _ => []
theorem RxAll.sel {h : Heap} (p : PyData → Bool) {F : List Addr} {xs : List Value} {ds : List PyData} (r : RxAll h F xs ds) : ∃ F', F'.Sublist F ∧ RxAll h F' (Mine.sel p xs ds) (ds.filter p) :=
  RxAll.rec (motive_1 := fun _ _ _ _ => True) (motive_2 := fun F xs ds _ => ∃ F', F'.Sublist F ∧ RxAll h F' (Mine.sel p xs ds) (ds.filter p)) trivial (fun _ => trivial) (fun _ _ => trivial) (fun _ _ => trivial) (fun _ _ _ => trivial) (fun _ _ _ => trivial)
    ⟨[], .slnil, .nil⟩ (fun {F H v vs d ds} r _ _ ih => by
      obtain ⟨F', s, q⟩ := ih
      rw [List.filter_cons]
      show ∃ F', F'.Sublist (F ++ H) ∧ RxAll h F' (if p d = true then v :: Mine.sel p vs ds else Mine.sel p vs ds) _
      split
      · exact ⟨F ++ F', s.append_left _, .cons r q⟩
      · exact ⟨F', s.trans (List.sublist_append_right _ _), q⟩) r
theorem sel_snoc (p : PyData → Bool) {xs : List Value} : ∀ {ds : List PyData} {v : Value} {d : PyData}, xs.length = ds.length → Mine.sel p (xs ++ [v]) (ds ++ [d]) = Mine.sel p xs ds ++ (if p d = true then [v] else []) := by
  induction xs with
  | nil =>
    intro ds v d h
    cases ds with
    | nil => rfl
    | cons => cases h
  | cons x xs ih =>
    intro ds v d h
    cases ds with
    | nil => cases h
    | cons e ds =>
      have ih := ih (v := v) (d := d) (Nat.succ.inj h)
      show (if p e = true then x :: Mine.sel p (xs ++ [v]) (ds ++ [d]) else Mine.sel p (xs ++ [v]) (ds ++ [d])) = (if p e = true then x :: Mine.sel p xs ds else Mine.sel p xs ds) ++ _
      rw [ih]; split <;> rfl
/-- what stood at the start of the outer frame stands in the comprehension's -/
theorem oldIn {fm fm' : Fm} {vs vs' : Vals} {cs cs' : List HP} {b s : Shared} {a : Addr} {o : Obj} (hb : Sit fm vs cs b) (e : fm.b.heap.get? a = some o) (ha : a ∉ fm.F) (h1 : fm'.b = b) (h2 : fm'.F = feet cs) (S : Sit fm' vs' cs' s) (hd : ∀ es ep, o.data ≠ .dict es ep := by intro _ _ q; cases q) : s.heap.get? a = some o :=
  S.keep (by rw [h1]; exact hb.keep e ha hd) (by rw [h2]; exact hb.old e ha) hd
theorem sitRaw {fm : Fm} {vs : Vals} {cs : List HP} {a : Addr} {xs : List Value} (hm : RAW a xs ∈ cs) : ∀ s, Sit fm vs cs s → s.heap.IsList a xs.toArray := fun s S => RAW.list (S.own _ hm).1
section
variable {α : Type} {w : World} {A : Around} {fm : Fm} {vs : Vals} {cs : List HP} {E : Value → Vals → List HP → Prop}
theorem G_ct {p : Pos} {id : String} {first : List Value} {e : Expr} {rest : List Expr} {Q : Value → Vals → List HP → Prop}
    (h : G w A fm (spliced (backTo p (starEach (e :: rest) fm.env))) (CallK w A fm (.type id) first Q E) E vs cs)
    (he : (e :: rest).all notStar = true) :
    G w A fm (callWith p (.type id) first (backTo p (starEach (e :: rest) fm.env)) []) Q E vs cs := G_callWith (keeps_plain fun _ q => nomatch q) h he
theorem G_ct0 {p : Pos} {id : String} {first : List Value} {Q : Value → Vals → List HP → Prop} (h : G w A fm (call (.type id) first) Q E vs cs) : G w A fm (callWith p (.type id) first (backTo p (starEach [] fm.env)) []) Q E vs cs :=
  G_callWith0 (keeps_plain fun _ q => nomatch q) (by rw [List.append_nil]; exact h)
theorem G_emp {t : Sem α} {Q : α → Vals → List HP → Prop} (h : G w A fm t Q E vs (ALL [] [] [] :: cs)) : G w A fm t Q E vs cs := fun s S =>
  h s ⟨S.fok, S.gens, S.os, S.ext, S.frs, S.loc, fun c hc => by
    cases hc with
    | head => exact ⟨⟨List.Pairwise.nil, .nil⟩, fun _ q => (nomatch q), fun q => (nomatch q)⟩
    | tail _ hc => exact S.own c hc, List.pairwise_cons.mpr ⟨fun _ _ _ q => (nomatch q), S.apart⟩⟩
/-- a new tuple of plain items, laid to others -/
theorem G_tupAll {ys : List Value} {ds : List PyData} {F : List Addr} {xs : List Value} {es : List PyData} {Q : Value → Vals → List HP → Prop} (hv : ∀ h, RxAll h [] xs es) (hsz : xs.length ≤ sizeLine) (h : ∀ a, Q (.ref a) vs (ALL (ys ++ [.ref a]) (ds ++ [.tuple es]) (F ++ [a]) :: cs)) :
    G w A fm (newTuple xs) Q E vs (ALL ys ds F :: cs) := fun s S => by
  obtain ⟨nd, r⟩ := (S.own _ (.head _)).1
  refine wpAny_newTuple (S.step (cs₀ := [ALL ys ds F]) (cs₁ := [ALL (ys ++ [.ref s.heap.objs.size]) (ds ++ [.tuple es]) (F ++ [s.heap.objs.size])]) (Stp.grow (t := s.toks) (fun _ _ e => Heap.get?_push_of_some _ e) (one_mem ⟨⟨?_, ?_⟩, fun x hx => ?_⟩) (List.pairwise_singleton _ _)) (h _)) hsz
  · refine List.nodup_append.mpr ⟨nd, nodup1 _, fun x hx y hy z => ?_⟩
    obtain ⟨o, e⟩ := r.lt _ hx
    cases List.mem_singleton.mp hy
    exact absurd (Heap.lt_size e) (by rw [z]; exact Nat.lt_irrefl _)
  · exact (r.loc fun a ha => by obtain ⟨o, e⟩ := r.lt a ha; rw [e]; exact Heap.get?_push_of_some _ e).append (RxAll.one (.tuple (n := 0) (Heap.get?_push_size _ rfl) (hv _)))
  · rcases List.mem_append.mp hx with hx | hx
    · exact .inl (mem_feet.mpr ⟨_, .head _, hx⟩)
    · cases List.mem_singleton.mp hx; exact .inr (Nat.le_refl _)
theorem G_part0 {Q : Value → Vals → List HP → Prop} (h : Q .none vs cs) : G w A fm (evalPart none fm.env) Q E vs cs := fun s S => by rw [evalPart_none]; exact wpAny_pure ⟨vs, cs, S, h⟩
theorem G_part1 {e : Expr} {Q : Value → Vals → List HP → Prop} (h : G w A fm (eval e fm.env) Q E vs cs) : G w A fm (evalPart (some e) fm.env) Q E vs cs := h
/-- a slice of a list -/
theorem G_SubSl {value : Expr} {lower upper : Option Expr} {p pos : Pos} {Q : Value → Vals → List HP → Prop}
    (h : G w A fm (eval value fm.env) (fun o vs cs => G w A fm (evalPart lower fm.env) (fun vl vs cs => G w A fm (evalPart upper fm.env) (fun vu vs cs => E4 fun l xs lo hi => A6 (o = .ref l) (∀ s, Sit fm vs cs s → s.heap.IsList l (List.toArray xs)) (xs.length ≤ sizeLine) (IsPart vl lo) (IsPart vu hi)
      (∀ a, Q (.ref a) vs (RAW a (slicePick xs.toArray lo hi none).toList :: cs))) E vs cs) E vs cs) E vs cs)
    (ht : ∀ o r, letTemporaryGo value o r = pure ()) : G w A fm (eval (.Subscript value (.Slice lower upper none p) pos) fm.env) Q E vs cs := fun s S => by
  refine wpAny_Subscript_list_slice (wpAny_mono (h s S) (fun o s₁ y => wpAny_mono (At.go y) (fun vl s₂ y => wpAny_mono (At.go y) (fun vu s₃ y => ?_) fun _ _ x => x) fun _ _ x => x) fun _ _ x => x) ht
  obtain ⟨vs₁, cs₁, S₁, l, xs, lo, hi, ho, hl, hsz, pl, pu, q⟩ := y
  refine ⟨l, _, lo, hi, ho, hl s₃ S₁, by rw [List.size_toArray]; exact hsz, pl, pu, ?_⟩
  refine ⟨vs₁, _, S₁.grow1 (c := RAW (s₃.heap.objs.size + 1) (slicePick xs.toArray lo hi none).toList) (t := s₃.toks) (fun _ _ e => Heap.get?_push_of_some _ (Heap.get?_push_of_some _ e)) ⟨_, ?_, 0, rfl⟩ (fun b hb => by cases List.mem_singleton.mp hb; exact Nat.le_succ _), q _⟩
  have := Heap.get?_push_size (s₃.heap.push { cls := .type "slice", data := .fields #[vl, vu, .none] }) (o := { cls := .type "list", data := .seq (slicePick xs.toArray lo hi none) }) rfl
  rw [Heap.size_push] at this
  exact this
noncomputable def RNG (r : Addr) (a b c : Int) : HP := HP.one r fun o => ∃ t u v, o = { cls := .type "range", data := .fields #[.int a t, .int b u, .int c v] }
theorem sitRng {r : Addr} {a b c : Int} (hm : RNG r a b c ∈ cs) : ∀ s, Sit fm vs cs s → ∃ t u v, IsRange s.heap r a b c t u v := fun s S => let ⟨_, e, t, u, v, q⟩ := (S.own _ hm).1; ⟨t, u, v, e.trans (congrArg some q)⟩
theorem G_range1 {n : Int} {t : Tok} {Q : Value → Vals → List HP → Prop} (h : ∀ r, Q (.ref r) vs (RNG r 0 n 1 :: cs)) : G w A fm (call (.type "range") [.int n t]) Q E vs cs := fun s S =>
  call_range_1 ⟨vs, _, S.grow1 (c := RNG s.heap.objs.size 0 n 1) (fun _ _ e => Heap.get?_push_of_some _ e) ⟨_, Heap.get?_push_size _ rfl, _, _, _, rfl⟩ (fun b hb => by cases List.mem_singleton.mp hb; exact Nat.le_refl _), h _⟩
theorem G_range3 {a b c : Int} {t u v : Tok} {Q : Value → Vals → List HP → Prop} (hc : c ≠ 0) (hs : c.natAbs < 1073741824) (h : ∀ r, Q (.ref r) vs (RNG r a b c :: cs)) : G w A fm (call (.type "range") [.int a t, .int b u, .int c v]) Q E vs cs := fun s S =>
  call_range_3 hc ⟨vs, _, S.grow1 (c := RNG s.heap.objs.size a b c) (fun _ _ e => Heap.get?_push_of_some _ e) ⟨_, Heap.get?_push_size _ rfl, _, _, _, rfl⟩ (fun b hb => by cases List.mem_singleton.mp hb; exact Nat.le_refl _), h _⟩ (.inl (PyProof.noPylong_small hs))
theorem G_mulI {a b : Int} {t u : Tok} {Q : Value → Vals → List HP → Prop} (hm : IntMulOk a b) (h : ∀ t, Q (.int (a * b) t) vs cs) : G w A fm (binaryOp .Mult (.int a t) (.int b u)) Q E vs cs := fun s S => PyProof.Rows.mul_int ⟨vs, cs, S.toks _, h _⟩ hm
theorem G_divI {a b : Int} {t u : Tok} {Q : Value → Vals → List HP → Prop} (hb : b ≠ 0) (hs : b.natAbs < 1073741824) (h : ∀ t, Q (.int (a.fdiv b) t) vs cs) : G w A fm (binaryOp .FloorDiv (.int a t) (.int b u)) Q E vs cs := fun s S => PyProof.Rows.floordiv_int hb ⟨vs, cs, S.toks _, h _⟩ (.inl (PyProof.noPylong_small hs))
theorem G_negI {a : Int} {t : Tok} {Q : Value → Vals → List HP → Prop} (h : ∀ t, Q (.int (-a) t) vs cs) : G w A fm (unaryOp .USub (.int a t)) Q E vs cs := fun s S => PyProof.Rows.neg_int ⟨vs, cs, S.toks _, h _⟩
theorem G_UnOp {op : UnaryOp} {x : Expr} {p : Pos} {Q : Value → Vals → List HP → Prop} (h : G w A fm (eval x fm.env) (KC w A fm (unaryOp op) Q E) E vs cs) : G w A fm (eval (.UnaryOp op x p) fm.env) Q E vs cs := fun s S =>
  UnaryOp_ (wpAny_mono (h s S) (fun v s₁ y => At.go y) fun _ _ x => x)
/-- an item of a list, counted from the end -/
theorem G_itemN {value slice : Expr} {a : Addr} {xs : List Value} {k : Int} {t : Tok} {v : Value} {Q : Value → Vals → List HP → Prop} (hl : ∀ s, Sit fm vs cs s → s.heap.IsList a xs.toArray) (h0 : k < 0) (h1 : -(xs.length : Int) ≤ k) (hfit : -(2 ^ 63) ≤ k) (hx : xs[(k + xs.length).toNat]? = some v) (h : Q v vs cs)
    (hs : subscripted slice false (.ref a) (.int k t) = operate [.ref a, .int k t] (getItem (.ref a) (.int k t)) := by with_unfolding_all rfl) : G w A fm (subscriptTail value slice (.ref a) (.int k t)) Q E vs cs := fun s S =>
  tail_any (hl s S).typeIs slot_list_getitem.lookup (wpAny_getItem_list_neg (hl s S) h0 (by rw [List.size_toArray]; exact h1) hfit (by rw [List.size_toArray]; simpa using hx) ⟨vs, cs, S, h⟩) hs
/-- an item of a tuple -/
theorem G_itemT {value slice : Expr} {a : Addr} {xs : List Value} {k : Int} {t : Tok} {j : Nat} {v : Value} {Q : Value → Vals → List HP → Prop} (hl : ∀ s, Sit fm vs cs s → s.heap.IsTuple a xs.toArray) (h0 : -(2 ^ 63) ≤ k) (hfit : k < 2 ^ 63) (hj : seqIndex? k xs.length = some j) (hx : xs[j]? = some v) (h : Q v vs cs)
    (hs : subscripted slice false (.ref a) (.int k t) = operate [.ref a, .int k t] (getItem (.ref a) (.int k t)) := by with_unfolding_all rfl) : G w A fm (subscriptTail value slice (.ref a) (.int k t)) Q E vs cs := fun s S => item_tupleT (hl s S) h0 hfit hj hx ⟨vs, cs, S, h⟩ hs
/-- data are held against data -/
theorem G_eqD {a b : Value} {da db : PyData} {Q : Value → Vals → List HP → Prop} (ra : ∀ s, Sit fm vs cs s → ∃ F, Rx s.heap F a da) (rb : ∀ s, Sit fm vs cs s → ∃ F, Rx s.heap F b db) (ha : SeqAt.shaped da = true) (hb : SeqAt.shaped db = true) (hu : A.units + 64 < cLine)
    (h : Q (.bool (PyData.eqv da db)) vs cs) : G w A fm (compareOp .Eq a b) Q E vs cs := fun s S => by
  obtain ⟨_, ra⟩ := ra s S
  obtain ⟨_, rb⟩ := rb s S
  obtain ⟨_, ra⟩ := ra.reads
  obtain ⟨_, rb⟩ := rb.reads
  exact eq_dataH ra rb ha hb hu ⟨vs, cs, S, h⟩
theorem G_neD {a b : Value} {da db : PyData} {Q : Value → Vals → List HP → Prop} (ra : ∀ s, Sit fm vs cs s → ∃ F, Rx s.heap F a da) (rb : ∀ s, Sit fm vs cs s → ∃ F, Rx s.heap F b db) (ha : SeqAt.shaped da = true) (hb : SeqAt.shaped db = true) (hu : A.units + 64 < cLine)
    (h : Q (.bool (!PyData.eqv da db)) vs cs) : G w A fm (compareOp .NotEq a b) Q E vs cs := fun s S => by
  obtain ⟨_, ra⟩ := ra s S
  obtain ⟨_, rb⟩ := rb s S
  obtain ⟨_, ra⟩ := ra.reads
  obtain ⟨_, rb⟩ := rb.reads
  exact ne_dataH ra rb ha hb hu ⟨vs, cs, S, h⟩
/-- a list and what its items bear, made one -/
theorem G_pair {t : Sem α} {Q : α → Vals → List HP → Prop} {a : Addr} {xs : List Value} {ds : List PyData} {F : List Addr} (h : G w A fm t Q E vs (LSX a xs ds F :: cs)) : G w A fm t Q E vs (RAW a xs :: ALL xs ds F :: cs) := fun s S => by
  have T : Stp fm.gp (feet [RAW a xs, ALL xs ds F]) fm.fr [LSX a xs ds F] s s := by
    obtain ⟨p1, _, _⟩ := S.own _ (.head _)
    obtain ⟨q1, _, _⟩ := S.own _ (.tail _ (.head _))
    obtain ⟨ob, e, n, rfl⟩ := p1
    refine ⟨id, rfl, fun _ _ e _ _ => e, fun _ o e _ _ => ⟨o.slots, e⟩, one_mem ⟨⟨List.nodup_cons.mpr ⟨fun z => ?_, q1.1⟩, ⟨n, e⟩, q1.2⟩, fun x hx => .inl ?_⟩, List.pairwise_singleton _ _⟩
    · exact (List.pairwise_cons.mp S.apart).1 _ (.head _) a (.head _) z
    · cases hx with
      | head => exact mem_feet.mpr ⟨_, .head _, .head _⟩
      | tail _ hx => exact mem_feet.mpr ⟨_, .tail _ (.head _), hx⟩
  exact h s (Sit.call (cs₀ := [_, _]) S T)
/-- a list is laid to the others -/
theorem G_fold {t : Sem α} {Q : α → Vals → List HP → Prop} {la : Addr} {lv ys : List Value} {es ds : List PyData} {H F : List Addr} (h : G w A fm t Q E vs (ALL (ys ++ [.ref la]) (ds ++ [.list es]) (F ++ la :: H) :: cs)) : G w A fm t Q E vs (LSX la lv es H :: ALL ys ds F :: cs) := fun s S => by
  have T : Stp fm.gp (feet [LSX la lv es H, ALL ys ds F]) fm.fr [ALL (ys ++ [.ref la]) (ds ++ [.list es]) (F ++ la :: H)] s s := by
    obtain ⟨⟨p1, ⟨n, p2⟩, p3⟩, _, _⟩ := S.own _ (.head _)
    obtain ⟨⟨q1, q2⟩, _, _⟩ := S.own _ (.tail _ (.head _))
    have dj : ∀ x ∈ la :: H, x ∉ F := (List.pairwise_cons.mp S.apart).1 _ (.head _)
    refine ⟨id, rfl, fun _ _ e _ _ => e, fun _ o e _ _ => ⟨o.slots, e⟩, one_mem ⟨⟨List.nodup_append.mpr ⟨q1, p1, fun x hx y hy z => dj y hy (z ▸ hx)⟩, q2.append (RxAll.one (.list p2 p3))⟩, fun x hx => .inl ?_⟩, List.pairwise_singleton _ _⟩
    rcases List.mem_append.mp hx with hx | hx
    · exact mem_feet.mpr ⟨_, .tail _ (.head _), hx⟩
    · exact mem_feet.mpr ⟨_, .head _, hx⟩
  exact h s (Sit.call (cs₀ := [_, _]) S T)
theorem G_newListR {xs : List Value} {Q : Value → Vals → List HP → Prop} (hsz : xs.length ≤ sizeLine) (h : ∀ a, Q (.ref a) vs (RAW a xs :: cs)) : G w A fm (newList xs) Q E vs cs := fun s S =>
  wpAny_newList ⟨vs, _, S.grow1 (t := s.toks) (c := RAW s.heap.objs.size xs) (fun _ _ e => Heap.get?_push_of_some _ e) ⟨_, Heap.get?_push_size _ rfl, 0, rfl⟩ (fun b hb => by cases List.mem_singleton.mp hb; exact Nat.le_refl _), h _⟩ hsz
theorem rawTy {a : Addr} {xs : List Value} (hm : RAW a xs ∈ cs) : ∀ s, Sit fm vs cs s → s.TypeIs (.ref a) "list" ∧ ∀ b, Value.ref a = .ref b → ∃ ob, s.heap.get? b = some ob ∧ ob.dict = none := fun s S => by
  obtain ⟨ob, e, n, rfl⟩ := (S.own _ hm).1
  exact ⟨⟨_, e, rfl⟩, fun b q => by cases q; exact ⟨_, e, rfl⟩⟩
/-- append to a list of values -/
theorem G_appendR {a : Addr} {xs : List Value} {v : Value} {Q : Value → Vals → List HP → Prop} (hsz : xs.length ≤ sizeLine) (h : Q .none vs (RAW a (xs ++ [v]) :: cs)) : G w A fm (call (.builtin "list.append") [.ref a, v]) Q E vs (RAW a xs :: cs) := fun s S => by
  obtain ⟨ob, e, n, rfl⟩ := (S.own _ (.head _)).1
  refine wpAny_list_append_plain (items := xs.toArray) ⟨n, e⟩ (fun h' il sb => ⟨vs, _, S.upd (c' := RAW a (xs ++ [v])) (t := s.toks) (.head _) sb (fun _ q => q) ?_, h⟩) (by rw [List.size_toArray]; exact hsz)
  obtain ⟨k, q⟩ := il
  exact ⟨_, q, k, by simp [listO]⟩
theorem G_raw0 {t : Sem α} {Q : α → Vals → List HP → Prop} {a : Addr} {xs : List Value} {ds : List PyData} (hx : ∀ h, RxAll h [] xs ds) (h : G w A fm t Q E vs (LSX a xs ds [] :: cs)) : G w A fm t Q E vs (RAW a xs :: cs) :=
  G_turn (LSX a xs ds []) (fun _ q => q) (fun h ⟨ob, e, n, z⟩ => ⟨nodup1 _, ⟨n, z ▸ e⟩, hx h⟩) h
theorem G_apart {t : Sem α} {Q : α → Vals → List HP → Prop} {a : Addr} {xs : List Value} {ds : List PyData} {F : List Addr} (h : G w A fm t Q E vs (RAW a xs :: ALL xs ds F :: cs)) : G w A fm t Q E vs (LSX a xs ds F :: cs) := fun s S => by
  have T : Stp fm.gp (feet [LSX a xs ds F]) fm.fr [RAW a xs, ALL xs ds F] s s := by
    obtain ⟨⟨p1, ⟨n, p2⟩, p3⟩, _, _⟩ := S.own _ (.head _)
    have nd := List.nodup_cons.mp p1
    refine ⟨id, rfl, fun _ _ e _ _ => e, fun _ o e _ _ => ⟨o.slots, e⟩, fun c hc => ?_, List.pairwise_cons.mpr ⟨fun d hd x hx hy => ?_, List.pairwise_singleton _ _⟩⟩
    · cases hc with
      | head => exact ⟨⟨_, p2, n, rfl⟩, fun x hx => .inl (mem_feet.mpr ⟨_, .head _, by cases List.mem_singleton.mp hx; exact .head _⟩)⟩
      | tail _ hc => cases List.mem_singleton.mp hc; exact ⟨⟨nd.2, p3⟩, fun x hx => .inl (mem_feet.mpr ⟨_, .head _, .tail _ hx⟩)⟩
    · cases List.mem_singleton.mp hd; cases List.mem_singleton.mp hx; exact nd.1 hy
  exact h s (Sit.call (cs₀ := [_]) S T)
end
end
end
section
open PySem PySem.W PyProof.Rows PySem.Calls
open Builtin Builtin.Str
section
/-- the signs of a text -/
noncomputable def sg (x : Str) : List Nat := x.cps.toList
theorem sg_ext {x y : Str} (h : sg x = sg y) : x = y := by
  obtain ⟨a⟩ := x; obtain ⟨b⟩ := y
  have : a = b := Array.toList_inj.mp h
  rw [this]
theorem sg_app (x y : Str) : sg (x ++ y) = sg x ++ sg y := Array.toList_append
theorem sg_len (x : Str) : (sg x).length = x.length := Array.length_toList
theorem sg_sub (x : Str) (i j : Nat) : sg (strSub x i j) = ((sg x).take j).drop i := by
  show (x.cps.extract i j).toList = _
  rw [Array.toList_extract]
  simp [sg, List.extract_eq_take_drop, List.drop_take]
noncomputable def jn (s : List Nat) : List (List Nat) → List Nat
  | [] => []
  | [a] => a
  | a :: b :: r => a ++ s ++ jn s (b :: r)
theorem sg_join (sep : Str) : ∀ ts : List Str, sg (Txt.join sep ts) = jn (sg sep) (ts.map sg)
  | [] => rfl
  | [a] => by show sg (glued sep [a]) = _; rfl
  | a :: b :: r => by
    have ih := sg_join sep (b :: r)
    show sg (glued sep (a :: b :: r)) = _
    rw [StrLaws.glued_eq_join]
    show sg (Str.join sep (a :: b :: r)) = sg a ++ sg sep ++ jn (sg sep) ((b :: r).map sg)
    rw [← ih]
    show _ = sg a ++ sg sep ++ sg (glued sep (b :: r))
    rw [StrLaws.glued_eq_join, ← sg_app, ← sg_app]
    rfl
/-- the places of a sign -/
noncomputable def idxs (c : Nat) : Nat → List Nat → List Nat
  | _, [] => []
  | k, x :: l => if x = c then k :: idxs c (k + 1) l else idxs c (k + 1) l
theorem idxs_app (c : Nat) : ∀ (a b : List Nat) (k : Nat), idxs c k (a ++ b) = idxs c k a ++ idxs c (k + a.length) b
  | [], b, k => rfl
  | x :: a, b, k => by
    show (if x = c then k :: idxs c (k + 1) (a ++ b) else idxs c (k + 1) (a ++ b)) = (if x = c then k :: idxs c (k + 1) a else idxs c (k + 1) a) ++ _
    rw [idxs_app c a b (k + 1), show k + (x :: a).length = k + 1 + a.length by simp; omega]
    split <;> rfl
theorem idxs_free (c : Nat) : ∀ (a : List Nat) (k : Nat), c ∉ a → idxs c k a = []
  | [], _, _ => rfl
  | x :: a, k, h => (if_neg fun (q : x = c) => h (q ▸ .head _)).trans (idxs_free c a (k + 1) fun q => h (.tail _ q))
theorem occ_loop (x : Str) (c limit : Nat) : ∀ (l : List Nat) (lo : Nat) (st : Array Nat × Nat), (sg x).drop lo = l → lo ≤ x.length → st.2 ≤ lo →
    ((forIn (List.range' lo (l.length + 1)) st (StrLaws.occBody x ⟨#[c]⟩ x.length limit)).run.fst.toList) = st.1.toList ++ (idxs c lo l).take (limit - st.1.size)
  | [], lo, st, hl, hlo, hst => by
    have hlen : lo = x.length := by
      have := congrArg List.length hl
      rw [List.length_drop, sg_len] at this
      simp at this; omega
    show ((forIn [lo] st (StrLaws.occBody x ⟨#[c]⟩ x.length limit)).run.fst.toList) = _
    rw [List.forIn_cons]
    unfold StrLaws.occBody
    rw [if_neg (by intro q; have := q.1.2; rw [show (⟨#[c]⟩ : Str).length = 1 from rfl] at this; omega)]
    simp [idxs]
  | y :: l, lo, st, hl, hlo, hst => by
    have hget : (sg x)[lo]? = some y := by rw [← List.head?_drop, hl]; rfl
    have hlt : lo < x.length := by rw [← sg_len]; exact (List.getElem?_eq_some_iff.mp hget).1
    have hdrop : (sg x).drop (lo + 1) = l := by rw [← List.drop_drop, hl]; rfl
    show ((forIn (lo :: List.range' (lo + 1) (l.length + 1)) st (StrLaws.occBody x ⟨#[c]⟩ x.length limit)).run.fst.toList) = _
    rw [List.forIn_cons]
    unfold StrLaws.occBody
    by_cases hc : y = c
    · by_cases hs : st.1.size < limit
      · rw [if_pos (by
          have := (StrLaws.subAt_one x c lo).mpr (hc ▸ hget)
          exact ⟨⟨⟨hs, hst⟩, this.1⟩, this.2⟩)]
        have ih := occ_loop x c limit l (lo + 1) (st.1.push lo, lo + 1) hdrop hlt (Nat.le_refl _)
        show ((forIn (List.range' (lo + 1) (l.length + 1)) (st.1.push lo, lo + 1) (StrLaws.occBody x ⟨#[c]⟩ x.length limit)).run.fst.toList) = _
        rw [ih]
        show (st.1.push lo).toList ++ _ = _ ++ (if y = c then lo :: idxs c (lo + 1) l else idxs c (lo + 1) l).take _
        rw [if_pos hc, Array.size_push, Array.toList_push, List.append_assoc]
        congr 1
        rw [show limit - st.1.size = (limit - (st.1.size + 1)) + 1 by omega]; rfl
      · rw [if_neg (by intro q; exact hs q.1.1.1)]
        have ih := occ_loop x c limit l (lo + 1) (st.1, st.2) hdrop hlt (by show st.2 ≤ _; omega)
        show ((forIn (List.range' (lo + 1) (l.length + 1)) (st.1, st.2) (StrLaws.occBody x ⟨#[c]⟩ x.length limit)).run.fst.toList) = _
        rw [ih, show limit - st.1.size = 0 by omega]; simp
    · rw [if_neg (by
        intro q
        have : (sg x)[lo]? = some c := (StrLaws.subAt_one x c lo).mp ⟨q.1.2, q.2⟩
        rw [hget] at this; cases this; exact hc rfl)]
      have ih := occ_loop x c limit l (lo + 1) (st.1, st.2) hdrop hlt (by show st.2 ≤ _; omega)
      show ((forIn (List.range' (lo + 1) (l.length + 1)) (st.1, st.2) (StrLaws.occBody x ⟨#[c]⟩ x.length limit)).run.fst.toList) = _
      rw [ih]
      show _ = _ ++ (if y = c then lo :: idxs c (lo + 1) l else idxs c (lo + 1) l).take _
      rw [if_neg hc]
theorem occ1 (x : Str) (c limit : Nat) : occurrences x ⟨#[c]⟩ 0 x.length limit = (idxs c 0 (sg x)).take limit := by
  rw [StrLaws.occ_eq, show x.length + 1 - 0 = (sg x).length + 1 by rw [sg_len]; rfl]
  rw [occ_loop x c limit (sg x) 0 (#[], 0) rfl (Nat.zero_le _) (Nat.le_refl _)]
  simp
theorem kind1 (x : Str) : 1 ≤ Builtin.Str.strKind x := by unfold Builtin.Str.strKind; split; exact Nat.le_refl _; split <;> decide
/-- splitting by one sign -/
theorem splitMax1 (x : Str) (c : Nat) (hc : c < 256) (k : Nat) : Txt.splitMax x ⟨#[c]⟩ k = if ((idxs c 0 (sg x)).take k).isEmpty = true then [x] else partsBetween x ((idxs c 0 (sg x)).take k) 1 := by
  unfold Txt.splitMax
  have hk : limitOf x (k : Int) = k := by unfold limitOf; rw [if_neg (by omega)]; rfl
  have k1 : Builtin.Str.strKind (⟨#[c]⟩ : Str) = 1 := by unfold Builtin.Str.strKind; rw [if_pos (by simp [hc])]
  rw [hk, occ1]
  by_cases h : (decide (x.length < (⟨#[c]⟩ : Str).length) || decide (Builtin.Str.strKind x < Builtin.Str.strKind ⟨#[c]⟩)) = true
  · rw [if_pos h]
    have hx : x.length = 0 := by
      rw [k1] at h
      rcases Bool.or_eq_true_iff.mp h with h | h
      · have := of_decide_eq_true h; rw [show (⟨#[c]⟩ : Str).length = 1 from rfl] at this; omega
      · have := of_decide_eq_true h; have := kind1 x; omega
    have : sg x = [] := List.length_eq_zero_iff.mp (by rw [sg_len]; exact hx)
    rw [this, if_pos (by simp [idxs])]
  · rw [if_neg h]; rfl
theorem take_app_drop {α : Type} (a b r : List α) : ((a ++ (b ++ r)).take (a.length + b.length)).drop a.length = b := by
  rw [← List.append_assoc, ← List.length_append, List.take_left, List.drop_left]
theorem cut_two {x a b : Str} {c : Nat} {r : List Nat} (hc : c < 256) (hx : sg x = sg a ++ (c :: (sg b ++ (c :: r)))) (ha : c ∉ sg a) (hb : c ∉ sg b) : Txt.splitMax x ⟨#[c]⟩ (2 : Nat) = [a, b, ⟨r.toArray⟩] := by
  have hi : idxs c 0 (sg x) = a.length :: (a.length + 1 + b.length) :: idxs c (a.length + 1 + b.length + 1) r := by
    rw [hx, idxs_app, idxs_free c _ _ ha]
    have one : ∀ k l, idxs c k (c :: l) = k :: idxs c (k + 1) l := fun k l => if_pos rfl
    rw [one, idxs_app, idxs_free c _ _ hb, one, sg_len, sg_len]
    simp
  rw [splitMax1 x c hc 2, hi]
  rw [if_neg (by simp)]
  show [strSub x 0 a.length, strSub x (a.length + 1) (a.length + 1 + b.length), strSub x (a.length + 1 + b.length + 1) x.length] = _
  have hl : x.length = a.length + 1 + b.length + 1 + r.length := by rw [← sg_len, hx]; simp [sg_len]; omega
  congr 1
  · apply sg_ext; rw [sg_sub, hx, List.drop_zero, ← sg_len, List.take_left]
  congr 1
  · apply sg_ext
    rw [sg_sub, hx, show sg a ++ c :: (sg b ++ c :: r) = (sg a ++ [c]) ++ (sg b ++ c :: r) by simp, show a.length + 1 = (sg a ++ [c]).length by simp [sg_len], ← sg_len b]
    exact take_app_drop _ _ _
  congr 1
  · apply sg_ext
    rw [sg_sub, hx, show sg a ++ c :: (sg b ++ c :: r) = (sg a ++ c :: sg b ++ [c]) ++ r by simp, hl]
    rw [List.take_of_length_le (by simp [sg_len]; omega), show a.length + 1 + b.length + 1 = (sg a ++ c :: sg b ++ [c]).length by simp [sg_len]; omega, List.drop_left]
    rfl
theorem cut_few {x : Str} {c : Nat} {a : List Nat} {o : List Nat} (hc : c < 256) (ha : c ∉ a) (ho : c ∉ o) (hx : sg x = a ∨ sg x = a ++ c :: o) : (Txt.splitMax x ⟨#[c]⟩ (2 : Nat)).length ≤ 2 := by
  rw [splitMax1 x c hc 2]
  split
  · simp
  · rw [length_partsBetween]
    have : (idxs c 0 (sg x)).length ≤ 1 := by
      rcases hx with hx | hx
      · rw [hx, idxs_free c _ _ ha]; simp
      · rw [hx, idxs_app, idxs_free c _ _ ha]
        show ([] ++ (if c = c then _ else _)).length ≤ 1
        rw [if_pos rfl, idxs_free c _ _ ho]; simp
    have := List.length_take_le 2 (idxs c 0 (sg x))
    rw [List.length_take]; omega
/-- data that can be held against each other, k deep -/
noncomputable def Fine (k : Nat) (d : PyData) : Prop := d.canLay0 = true ∧ d.depth ≤ k
theorem Fine.shaped {k : Nat} {d : PyData} (h : Fine k d) (hk : k ≤ 64) : SeqAt.shaped d = true := Bool.and_eq_true_iff.mpr ⟨h.1, decide_eq_true (Nat.le_trans h.2 hk)⟩
theorem Fine.le {k j : Nat} {d : PyData} (h : Fine k d) (hk : k ≤ j) : Fine j d := ⟨h.1, Nat.le_trans h.2 hk⟩
theorem Fine.none {k : Nat} : Fine k .none := ⟨rfl, Nat.zero_le _⟩
theorem Fine.bool {k : Nat} (b : Bool) : Fine k (.bool b) := ⟨rfl, Nat.zero_le _⟩
theorem Fine.int {k : Nat} (i : Int) : Fine k (.int i) := ⟨rfl, Nat.zero_le _⟩
theorem Fine.str {k : Nat} {x : Str} (h : PyData.strOk x = true) : Fine k (.str x) := ⟨h, Nat.zero_le _⟩
theorem fineAll {k : Nat} : ∀ {ds : List PyData}, (∀ d ∈ ds, Fine k d) → PyData.canLayAll0 ds = true ∧ PyData.depthAll ds ≤ k
  | [], _ => ⟨rfl, Nat.zero_le _⟩
  | d :: ds, h => by
    obtain ⟨a, b⟩ := fineAll (ds := ds) fun x hx => h x (.tail _ hx)
    obtain ⟨c, e⟩ := h d (.head _)
    refine ⟨?_, ?_⟩
    · unfold PyData.canLayAll0; rw [a, c]; rfl
    · unfold PyData.depthAll; omega
theorem Fine.list {k : Nat} {ds : List PyData} (h : ∀ d ∈ ds, Fine k d) : Fine (k + 1) (.list ds) := ⟨by unfold PyData.canLay0; exact (fineAll h).1, by unfold PyData.depth; exact Nat.succ_le_succ (fineAll h).2⟩
theorem Fine.tuple {k : Nat} {ds : List PyData} (h : ∀ d ∈ ds, Fine k d) : Fine (k + 1) (.tuple ds) := ⟨by unfold PyData.canLay0; exact (fineAll h).1, by unfold PyData.depth; exact Nat.succ_le_succ (fineAll h).2⟩
end
end
section
open PySem PySem.W PyProof.Rows PySem.Calls
open Builtin Builtin.Re
section
noncomputable abbrev findO : Obj := { cls := .type "builtin_function_or_method", data := .fields #[.builtin "re.Pattern.search", .ref 176] }
noncomputable abbrev patO : Obj := { cls := .type "re.Pattern", data := .fields #[.str "[^\\w@%+=:,./-]" 526, .int 256 563, .int 0 0, .none, .none, .ref 175, .int 0 0] }
noncomputable abbrev reCode : List Int := [14, 17, 4, 1, 1, 21, 9, 0, 604043296, 1, 0, 0, 0, 0, 0, 8, 4, 0, 13, 14, 21, 9, 0, 604043296, 1, 0, 0, 0, 0, 0, 8, 4, 0, 1]
noncomputable abbrev codeO : Obj := { cls := .type "tuple", data := .seq (reCode.map fun i => Value.int i 0).toArray }
theorem own_pat : Manifest.owners.lookup (String.ofList ['n', 'r', 'e', 't', 't', 'a', 'P', '.', 'e', 'r'].reverse) = some Manifest.sig_re_Pattern := by kernel_rfl
theorem kind_search : builtinKind "re.Pattern.search" = some .method := by kernel_rfl
theorem vm_search : Manifest.varargsMethods.contains "re.Pattern.search" = false := by kernel_rfl
theorem if_no {α : Type} {M : Model} {A : Around} {c : Bool} {x y : Sem α} {Q : α → Shared → Prop} {E : Value → Shared → Prop} {s : Shared} (h : c = false) (k : wpAny M A y Q E s) : wpAny M A (if c = true then x else y) Q E s := by rw [if_neg (by rw [h]; decide)]; exact k
theorem if_so {α : Type} {M : Model} {A : Around} {c : Bool} {x y : Sem α} {Q : α → Shared → Prop} {E : Value → Shared → Prop} {s : Shared} (h : c = true) (k : wpAny M A x Q E s) : wpAny M A (if c = true then x else y) Q E s := by rw [if_pos h]; exact k
theorem entry_search : entryFor table "re.Pattern.search" = some Builtin.«re.Pattern.search» := entryFor_of_tree (by kernel_rfl)
section
variable {w : World} {A : Around} {s : Shared} {E : Value → Shared → Prop}
theorem check_search {x : Str} {t : Tok} {Q : Unit → Shared → Prop} (h : s.heap.get? 176 = some patO) (q : Q () s) : wpAny (MD w) A (checkBoundCall "re.Pattern.search" ⟨[.ref 176, .str x t], []⟩) Q E s := by
  have hT : s.TypeIs (.ref 176) "re.Pattern" := ⟨_, h, rfl⟩
  unfold checkBoundCall
  rw [signature?_of (id := "re.Pattern.search") (n := ['h', 'c', 'r', 'a', 'e', 's']) (o := ['n', 'r', 'e', 't', 't', 'a', 'P', '.', 'e', 'r']) (by kernel_rfl) own_pat, kind_search]
  obtain ⟨sg, hsg⟩ : ∃ sg, Manifest.sig_re_Pattern.lookup (String.ofList ['h', 'c', 'r', 'a', 'e', 's'].reverse) = some sg := Option.isSome_iff_exists.mp (by kernel_rfl)
  have hck : (match Manifest.sig_re_Pattern.lookup (String.ofList ['h', 'c', 'r', 'a', 'e', 's'].reverse) with | some sg => Bind.checkArgs "re.Pattern.search" { sg with full := "Pattern.search" } ⟨[.ref 176, .str x t], []⟩ | none => unsupported "") = pure () := by kernel_rfl!
  rw [hsg] at hck ⊢
  dsimp only at hck ⊢
  refine if_no (by decide) ?_
  refine wpAny_bind (wpAny_isInstance (b := false) hT (by rw [isSubtype_type]; kernel_rfl) ?_)
  rw [vm_search]
  refine if_no (by decide) ?_
  unfold isType
  refine wpAny_bind (wpAny_bind (wpAny_loadPart h (wpAny_pure ?_)))
  refine if_no rfl ?_
  refine wpAny_bind (wpAny_typeOf hT ?_)
  dsimp only
  have e : toString (Bind.lastOf "re.Pattern") ++ toString "." ++ toString (Bind.lastOf "re.Pattern.search") = "Pattern.search" := by decide +kernel
  rw [e, hck]
  exact wpAny_pure q
theorem named_search (x : Str) (t : Tok) : reNamed "re.Pattern.search" "search" ["string", "pos", "endpos"] 1 [.str x t] [] = pure [some (.str x t), none, none] := by kernel_rfl!
noncomputable abbrev target (x : Str) (t : Tok) : ReTarget := { pattern := .ref 176, string := .str x t, code := (reCode.map Int.toNat).toArray, text := x.cps, kind := 0, groups := 0, pos := 0, lim := Min.min (2 ^ 63 - 1 : Int).toNat x.cps.size }
theorem target_search {x : Str} {t : Tok} {Q : ReTarget → Shared → Prop} (h : s.heap.get? 176 = some patO) (h5 : s.heap.get? 175 = some codeO) (q : Q (target x t) s) : wpAny (MD w) A (reTarget "re.Pattern.search" "search" ⟨[.ref 176, .str x t], []⟩) Q E s := by
  unfold reTarget
  dsimp only
  rw [named_search]
  refine wpAny_bind (wpAny_pure ?_)
  dsimp only
  refine wpAny_bind (wpAny_pure (wpAny_bind (wpAny_pure (wpAny_bind ?_))))
  refine wpAny_fieldsOf h rfl ?_
  have ht : reTextOf (.str x t) = pure (x.cps, 0) := by kernel_rfl!
  rw [ht]
  refine wpAny_bind (wpAny_pure ?_)
  refine if_no rfl (if_no rfl ?_)
  have hn : reNoCollectionInside (.str x t) 0 = pure () := by kernel_rfl!
  dsimp only
  rw [hn]
  refine wpAny_bind (wpAny_pure (wpAny_bind ?_))
  unfold reRawItems
  refine wpAny_bind (wpAny_seqItems h5 rfl (wpAny_pure (wpAny_pure ?_)))
  have ec : Array.map (fun x => x.toNat) (Array.map reRawOf ((some (List.map (fun i => Value.int i 0) reCode).toArray).getD #[])) = (reCode.map Int.toNat).toArray := by decide +kernel
  rw [show Min.min (Int.toNat 0) x.cps.size = 0 from Nat.zero_min _, ec]
  exact q
theorem rules_seen {f : Nat → Bool} {g : Nat → String} {Q : PUnit → Shared → Prop} (q : Q ⟨⟩ s) : ∀ l : List Nat, wpAny (MD w) A (forIn l PUnit.unit fun i (_ : PUnit) => if f i = true then (do rule (g i); pure (ForInStep.yield PUnit.unit)) else pure (ForInStep.yield PUnit.unit)) Q E s
  | [] => by rw [List.forIn_nil]; exact wpAny_pure q
  | i :: l => by
    rw [List.forIn_cons]
    refine wpAny_bind ?_
    split
    · exact wpAny_bind (wpAny_rule (wpAny_pure (rules_seen q l)))
    · exact wpAny_pure (rules_seen q l)
theorem run_search {m m' : Sre.M} {o : Option Sre.M} {Q : Option Sre.M → Shared → Prop} (hm : m.runFor reTurnSteps = m') (ho : (m'.outcome = some .matched ∧ o = some m') ∨ (m'.outcome = some .failed ∧ o = none)) (q : Q o s) : wpAny (MD w) A (reRunToEnd m) Q E s := by
  unfold reRunToEnd
  refine wpAny_bind ?_
  rw [show (2 ^ 64 : Nat) = (2 ^ 64 - 1) + 1 from rfl]
  unfold reDrive
  dsimp only
  rw [hm]
  refine if_so (by rcases ho with ⟨h, _⟩ | ⟨h, _⟩ <;> rw [h] <;> rfl) (wpAny_pure ?_)
  refine wpAny_bind (wpAny_mono (E := E) (Q := fun _ s' => s' = s) ?_ (fun _ s' e => ?_) fun _ _ e => e)
  · exact rules_seen rfl _
  · subst e
    rcases ho with ⟨h, rfl⟩ | ⟨h, rfl⟩ <;> rw [h] <;> exact wpAny_pure q
theorem hit0 (c : Nat) (hc : c = 39 ∨ c = 34) (rest : List Nat) (k : Nat) : ((Sre.forSearch (reCode.map Int.toNat).toArray (c :: rest).toArray 0 0 (k + 1) false).runFor reTurnSteps).outcome = some .matched := by
  rcases hc with rfl | rfl <;> kernel_rfl!
theorem hit1 (c d : Nat) (hc : c = 97 ∨ c = 98 ∨ c = 99) (hd : d = 39 ∨ d = 32) (rest : List Nat) (k : Nat) : ((Sre.forSearch (reCode.map Int.toNat).toArray (c :: d :: rest).toArray 0 0 (k + 2) false).runFor reTurnSteps).outcome = some .matched := by
  rcases hc with rfl | rfl | rfl <;> rcases hd with rfl | rfl <;> kernel_rfl!
theorem miss1 (c : Nat) (hc : c = 97 ∨ c = 98 ∨ c = 99) : ((Sre.forSearch (reCode.map Int.toNat).toArray #[c] 0 0 1 false).runFor reTurnSteps).outcome = some .failed := by
  rcases hc with rfl | rfl | rfl <;> kernel_rfl!
/-- the search, by the outcome of its machine -/
theorem call_find {x : Str} {t : Tok} {Q : Value → Shared → Prop} (h9 : s.heap.get? 879 = some findO) (h6 : s.heap.get? 176 = some patO) (h5 : s.heap.get? 175 = some codeO) (hx : x.cps.size ≤ 1000000)
    (ho : (((Sre.forSearch (reCode.map Int.toNat).toArray x.cps 0 0 x.cps.size false).runFor reTurnSteps).outcome = some .matched ∧ ∀ a h' tk, (∀ b o, s.heap.get? b = some o → h'.get? b = some o) → Q (.ref a) { s with heap := h', toks := tk }) ∨
      (((Sre.forSearch (reCode.map Int.toNat).toArray x.cps 0 0 x.cps.size false).runFor reTurnSteps).outcome = some .failed ∧ Q .none s)) : wpAny (MD w) A (call (.ref 879) [.str x t]) Q E s := by
  refine wpAny_call (codeAny_of_tree ?_)
  show wpAny _ A.in1 (callAny (.ref 879) ⟨[.str x t], []⟩) _ _ s
  simp only [callAny]
  refine wpAny_bind (wpAny_load h9 ?_)
  simp only [show (Value.type "builtin_function_or_method" == Value.type "method" || Value.type "builtin_function_or_method" == Value.type "builtin_function_or_method" || Value.type "builtin_function_or_method" == Value.type "method-wrapper") = true by decide, if_true]
  refine if_so (by decide) ?_
  refine wpAny_bind (check_search h6 ?_)
  refine wpAny_bind (wpAny_pure (wpAny_pure ?_))
  refine ⟨by show (Code.builtin "re.Pattern.search" ⟨[.ref 176, .str x t], []⟩).quiet = true; kernel_rfl!, codeAny_builtin entry_search ?_⟩
  unfold «re.Pattern.search»
  refine wpAny_bind (target_search h6 h5 ?_)
  unfold reAnswer
  dsimp only
  rw [show Min.min (2 ^ 63 - 1 : Int).toNat x.cps.size = x.cps.size from Nat.min_eq_right (Nat.le_trans hx (by decide))]
  refine wpAny_bind ?_
  rcases ho with ⟨h, q⟩ | ⟨h, q⟩
  · refine run_search rfl (.inl ⟨h, rfl⟩) ?_
    dsimp only
    unfold reNewMatch
    generalize Sre.M.runFor reTurnSteps _ = m'
    refine wpAny_bind (if_no (by rfl) (wpAny_bind (wpAny_newTuple (wpAny_newObj_type (wpAny_pure ?_)) (szl (Nat.le_of_ble_eq_true rfl)))))
    exact q _ _ s.toks fun b o e => Heap.get?_push_of_some _ (Heap.get?_push_of_some _ e)
  · refine run_search rfl (.inr ⟨h, rfl⟩) ?_
    exact wpAny_pure q
end
theorem sgl {x : Str} {l : List Nat} (h : x.cps.toList = l) : x.cps = l.toArray := by rw [← h]
section
variable {w : World} {A : Around} {fm : Fm} {vs : Vals} {cs : List HP} {E : Value → Vals → List HP → Prop}
structure FindOk (K : Frag) : Prop where
  h9 : K.lookup 879 = some findO
  h6 : K.lookup 176 = some patO
  h5 : K.lookup 175 = some codeO
/-- an unsafe sign is found at once -/
theorem G_findHit {x : Str} {t : Tok} {Q : Value → Vals → List HP → Prop} (ok : FindOk fm.K) (hx : x.length ≤ 1000000) (hh : (∃ c rest, x.cps.toList = c :: rest ∧ (c = 39 ∨ c = 34)) ∨ ∃ c d rest, x.cps.toList = c :: d :: rest ∧ (c = 97 ∨ c = 98 ∨ c = 99) ∧ (d = 39 ∨ d = 32)) (h : ∀ a, Q (.ref a) vs cs) :
    G w A fm (call (.ref 879) [.str x t]) Q E vs cs := fun s S => by
  refine call_find (S.top.kin _ _ ok.h9) (S.top.kin _ _ ok.h6) (S.top.kin _ _ ok.h5) hx (.inl ⟨?_, fun a h' tk kp => ⟨vs, cs, S.grow (cn := []) kp (fun _ q => (nomatch q)) List.Pairwise.nil, h a⟩⟩)
  rcases hh with ⟨c, rest, e, hc⟩ | ⟨c, d, rest, e, hc, hd⟩
  · have hs : x.cps.size = rest.length + 1 := by rw [sgl e, List.size_toArray]; rfl
    rw [hs, sgl e]; exact hit0 c hc rest _
  · have hs : x.cps.size = rest.length + 2 := by rw [sgl e, List.size_toArray]; rfl
    rw [hs, sgl e]; exact hit1 c d hc hd rest _
theorem G_findMiss {x : Str} {t : Tok} {Q : Value → Vals → List HP → Prop} (ok : FindOk fm.K) (hh : ∃ c, x.cps.toList = [c] ∧ (c = 97 ∨ c = 98 ∨ c = 99)) (h : Q .none vs cs) :
    G w A fm (call (.ref 879) [.str x t]) Q E vs cs := fun s S => by
  obtain ⟨c, e, hc⟩ := hh
  have hs : x.cps.size = 1 := by rw [sgl e, List.size_toArray]; rfl
  refine call_find (S.top.kin _ _ ok.h9) (S.top.kin _ _ ok.h6) (S.top.kin _ _ ok.h5) (by rw [hs]; decide) (.inr ⟨?_, ⟨vs, cs, S, h⟩⟩)
  rw [hs, sgl e]; exact miss1 c hc
end
end
end
section
open PySem PySem.W PyProof.Rows PySem.Calls
section
theorem runs_toks {M : Model} {Γ : Ctx} {p : Pos} {t : Sem Fin} {fs : List PySem.Frame} {s s' : Shared} {e : End} (h : Runs M Γ p t fs s e s') : s.toks ≤ s'.toks := by
  induction h with
  | done => exact Nat.le_refl _
  | raise => exact Nat.le_refl _
  | yield => exact Nat.le_refl _
  | fresh _ ih => exact Nat.le_trans (Nat.le_succ _) ih
  | again _ _ ih => exact ih
  | call _ _ ih1 ih2 => exact Nat.le_trans ih1 ih2
  | resumeFresh _ _ _ _ ih1 ih2 => exact Nat.le_trans ih1 ih2
  | resumeSuspended _ _ _ _ ih1 ih2 => exact Nat.le_trans ih1 ih2
  | segRet _ _ ih1 ih2 => exact Nat.le_trans ih1 ih2
  | segGen _ _ ih1 ih2 => exact Nat.le_trans ih1 ih2
  | segSuspGen _ _ _ _ ih1 ih2 => exact Nat.le_trans ih1 ih2
  | _ => assumption
theorem wakes_toks {M : Model} {Γ : Ctx} {p : Pos} {g : Nat} {r : Resume} {s s' : Shared} {res : GenResult} (h : Wakes M Γ p g r s res s') : s.toks ≤ s'.toks := by
  unfold Wakes at h
  split at h
  · exact h.elim
  · split at h
    · obtain ⟨e₁, s₁, h1, _, _, rfl⟩ := h; have z := runs_toks h1; exact z
    · obtain ⟨_, rfl⟩ := h; exact Nat.le_refl _
    · obtain ⟨_, rfl⟩ := h; exact Nat.le_refl _
  · obtain ⟨e₁, s₁, h1, _, _, rfl⟩ := h; have z := runs_toks h1; exact z
  · obtain ⟨_, rfl⟩ := h; exact Nat.le_refl _
  · obtain ⟨_, rfl⟩ := h; exact Nat.le_refl _
theorem wp_toks {α : Type} {M : Model} {Γ : Ctx} (n : Nat) {Q : α → Pos → Shared → Prop} {E : Value → Pos → Shared → Prop} (t : Sem α) : ∀ {p : Pos} {s : Shared}, n ≤ s.toks → Sem.wp M Γ t Q E p s → Sem.wp M Γ t (fun a p s' => Q a p s' ∧ n ≤ s'.toks) (fun e p s' => E e p s' ∧ n ≤ s'.toks) p s := by
  induction t with
  | pure a => intro p s hs h; simp only [Sem.wp] at h ⊢; exact ⟨h, hs⟩
  | raise e => intro p s hs h; simp only [Sem.wp] at h ⊢; exact ⟨h, hs⟩
  | load a q k ih => intro p s hs h; simp only [Sem.wp] at h ⊢; obtain ⟨o, h1, h2⟩ := h; exact ⟨o, h1, ih _ hs h2⟩
  | update a q f k ih => intro p s hs h; simp only [Sem.wp] at h ⊢; exact ⟨h.1, ih _ hs h.2⟩
  | fresh k ih => intro p s hs h; simp only [Sem.wp] at h ⊢; exact ih _ (Nat.le_succ_of_le hs) h
  | choose src m k ih => intro p s hs h; simp only [Sem.wp] at h ⊢; exact ⟨h.1, ih _ hs h.2⟩
  | call c hh g l k ih => intro p s hs h; simp only [Sem.wp] at h ⊢; obtain ⟨r, s', h1, h2⟩ := h; exact ⟨r, s', h1, ih _ (Nat.le_trans hs (runs_toks h1)) h2⟩
  | genState g k ih => intro p s hs h; simp only [Sem.wp] at h ⊢; obtain ⟨st, h1, h2⟩ := h; exact ⟨st, h1, ih _ hs h2⟩
  | resume g r l k ih => intro p s hs h; simp only [Sem.wp] at h ⊢; obtain ⟨res, s', h1, h2⟩ := h; exact ⟨res, s', h1, ih _ (Nat.le_trans hs (wakes_toks h1)) h2⟩
  | unsupported => intro p s hs h; simp only [Sem.wp] at h
  | finish => intro p s hs h; simp only [Sem.wp] at h
  | register => intro p s hs h; simp only [Sem.wp] at h
  | yield => intro p s hs h; simp only [Sem.wp] at h
  | fork => intro p s hs h; simp only [Sem.wp] at h
  | await => intro p s hs h; simp only [Sem.wp] at h
  | _ => rename_i ih; intro p s hs h; simp only [Sem.wp] at h ⊢; exact ih _ hs h
/-- the count of new objects never falls -/
theorem wpAny_toks {α : Type} {M : Model} {A : Around} {t : Sem α} {Q : α → Shared → Prop} {E : Value → Shared → Prop} {s : Shared} {n : Nat} (hs : n ≤ s.toks) (h : wpAny M A t Q E s) : wpAny M A t (fun a s' => Q a s' ∧ n ≤ s'.toks) (fun e s' => E e s' ∧ n ≤ s'.toks) s :=
  fun Γ p hΓ => wp_toks n t hs (h Γ p hΓ)
theorem codeAny_toks {M : Model} {A : Around} {c : Code} {R : Result → Shared → Prop} {s : Shared} {n : Nat} (hs : n ≤ s.toks) (h : codeAny M A c R s) : codeAny M A c (fun r s' => R r s' ∧ n ≤ s'.toks) s :=
  fun Γ p hc hΓ => let ⟨r, s', h1, h2⟩ := h Γ p hc hΓ; ⟨r, s', h1, h2, Nat.le_trans hs (runs_toks h1)⟩
section
variable {w : World} {A : Around} {fm : Fm} {vs : Vals} {cs : List HP} {E : Value → Shared → Prop}
/-- x.replace(y, z) with two texts of the program: their tokens are new and differ -/
theorem raw_replace {s : Shared} (S : Sit fm vs cs s) (ht : 1 ≤ s.toks) {x y z a : Str} {p0 ap p q1 q2 : Pos} {k1 k2 : Nat} {t : Tok} {Q : Value → Shared → Prop} (g : Get fm.ns vs x (.str a t)) (hyz : (y == z) = false) (hx : a.length ≤ 1048576) (hz : z.length ≤ 14) (hline : (ap.endLine == p.line) = true)
    (h : ∀ t' k, Q (.str (Txt.replace a y z) t') { s with toks := k }) : wpAny (MD w) A (eval (.Call (.Attribute (.Name x p0) "replace" ap) [.Constant (.str y) k1 q1, .Constant (.str z) k2 q2] [] p) fm.env) Q E s := by
  obtain ⟨m, n, ag⟩ := S.loc
  refine wpAny_Call_method (base_of rfl) rfl hline F.plainAttrs_str F.slot_str_replace F.type_str_replace (wpAny_Name (wpAny_loadName_local S.fok.fk (S.fok.kind x g.mem) n (g.agree ag) ⟨typeIs_str s a t, fun b q => (nomatch q), ?_⟩) (S.fok.dbg x g.mem))
  refine callWith_of rfl (keeps_plain (w := w) (K := fm.K) fun _ q => (nomatch q)) (evalArgs_plain ?_)
  refine spliced_cons (wpAny_Constant_str (k := k1) (pos := q1) (spliced_cons (wpAny_Constant_str (k := k2) (pos := q2) (spliced_nil ⟨S.top.kin, ?_⟩))))
  refine SC.replaceW (Nat.ne_of_gt ht) (Nat.succ_ne_zero _) (Nat.ne_of_lt (Nat.lt_succ_self _)) hyz hx hz fun t' k => h t' k
/-- what is known of the count stays known -/
theorem G_seqT {st : Stmt} {rest : List Stmt} {n : Nat} {s : Shared} {E : Value → Vals → List HP → Prop} {Q1 Q : Flow → Vals → List HP → Prop} (S : Sit fm vs cs s) (ht : n ≤ s.toks) (h : G w A fm (exec st fm.env) Q1 E vs cs)
    (k : ∀ fl vs' cs' s', Q1 fl vs' cs' → Sit fm vs' cs' s' → n ≤ s'.toks → match fl with
      | .next => wpAny (MD w) A (execs rest fm.env) (fun a => At fm (Q a)) (fun e => At fm (E e)) s'
      | f => Q f vs' cs') : wpAny (MD w) A (execs (st :: rest) fm.env) (fun a => At fm (Q a)) (fun e => At fm (E e)) s := by
  refine wpAny_execs_cons (wpAny_mono (wpAny_toks ht (h s S)) (fun f s' x => ?_) fun _ _ x => x.1)
  obtain ⟨⟨v, c, S', q⟩, ht'⟩ := x
  have z := k f v c s' q S' ht'
  cases f with
  | next => exact z
  | _ => exact ⟨v, c, S', z⟩
end
end
end
section
open PySem PySem.W PyProof.Rows PySem.Calls
open Builtin Builtin.Str
section
noncomputable def rp (c : Nat) (z : List Nat) : List Nat → List Nat
  | [] => []
  | y :: l => if y = c then z ++ rp c z l else y :: rp c z l
theorem jn_cons {s a : List Nat} {l : List (List Nat)} (h : l ≠ []) : jn s (a :: l) = a ++ s ++ jn s l := by
  cases l with
  | nil => exact absurd rfl h
  | cons b r => rfl
theorem rep_from (x : Str) (c : Nat) (z : List Nat) : ∀ (l : List Nat) (a b : Nat), (sg x).drop a = l → a ≤ x.length → b ≤ a → jn z ((StrLaws.partsFrom x 1 b (idxs c a l)).map sg) = ((sg x).take a).drop b ++ rp c z l
  | [], a, b, hl, ha, hb => by
    have hlen : x.length ≤ a := by
      have := congrArg List.length hl
      rw [List.length_drop, sg_len] at this
      simp at this; omega
    show sg (strSub x b x.length) = _
    rw [sg_sub, List.take_of_length_le (by rw [sg_len]; exact Nat.le_refl _), List.take_of_length_le (by rw [sg_len]; exact hlen)]
    simp [rp]
  | y :: l, a, b, hl, ha, hb => by
    have hget : (sg x)[a]? = some y := by rw [← List.head?_drop, hl]; rfl
    have hlt : a < x.length := by rw [← sg_len]; exact (List.getElem?_eq_some_iff.mp hget).1
    have hdrop : (sg x).drop (a + 1) = l := by rw [← List.drop_drop, hl]; rfl
    have hidx : idxs c a (y :: l) = if y = c then a :: idxs c (a + 1) l else idxs c (a + 1) l := rfl
    have hrp : rp c z (y :: l) = if y = c then z ++ rp c z l else y :: rp c z l := rfl
    rw [hidx, hrp]
    by_cases hc : y = c
    · rw [if_pos hc, if_pos hc]
      show jn z (sg (strSub x b a) :: (StrLaws.partsFrom x 1 (a + 1) (idxs c (a + 1) l)).map sg) = _
      rw [jn_cons (by
        obtain ⟨p, r, e⟩ := StrLaws.partsFrom_ne x 1 (a + 1) (idxs c (a + 1) l)
        rw [e]; simp)]
      rw [rep_from x c z l (a + 1) (a + 1) hdrop hlt (Nat.le_refl _), sg_sub]
      have e0 : ((sg x).take (a + 1)).drop (a + 1) = [] := List.drop_eq_nil_of_le (List.length_take_le ..)
      rw [e0]; simp
    · rw [if_neg hc, if_neg hc, rep_from x c z l (a + 1) b hdrop hlt (Nat.le_succ_of_le hb)]
      rw [List.take_add_one, hget, List.drop_append_of_le_length (by rw [List.length_take, sg_len]; omega)]
      simp
theorem idxs_len (c : Nat) : ∀ (l : List Nat) (k : Nat), (idxs c k l).length ≤ l.length
  | [], _ => Nat.le_refl _
  | y :: l, k => by
    have := idxs_len c l (k + 1)
    show (if y = c then k :: idxs c (k + 1) l else idxs c (k + 1) l).length ≤ _
    split
    · simp; exact this
    · simp; omega
theorem rp_free {c : Nat} {z : List Nat} : ∀ {l : List Nat}, c ∉ l → rp c z l = l
  | [], _ => rfl
  | y :: l, h => (if_neg fun q : y = c => h (q ▸ .head _)).trans (congrArg (y :: ·) (rp_free fun q => h (.tail _ q)))
theorem rp_app {c : Nat} {z : List Nat} : ∀ (a b : List Nat), rp c z (a ++ b) = rp c z a ++ rp c z b
  | [], b => rfl
  | y :: a, b => by
    show (if y = c then z ++ rp c z (a ++ b) else y :: rp c z (a ++ b)) = (if y = c then z ++ rp c z a else y :: rp c z a) ++ rp c z b
    rw [rp_app a b]; split <;> simp
theorem rp_jn {c : Nat} {z : List Nat} : ∀ {ls : List (List Nat)}, (∀ l ∈ ls, c ∉ l) → rp c z (jn [c] ls) = jn z ls
  | [], _ => rfl
  | [a], h => rp_free (h a (.head _))
  | a :: b :: r, h => by
    have ih := rp_jn (z := z) (ls := b :: r) fun l hl => h l (.tail _ hl)
    show rp c z (a ++ [c] ++ jn [c] (b :: r)) = a ++ z ++ jn z (b :: r)
    rw [rp_app, rp_app, ih, rp_free (h a (.head _))]
    congr 2
    show (if c = c then z ++ [] else _) = z
    rw [if_pos rfl, List.append_nil]
theorem sg_replace (x z : Str) (c : Nat) : sg (Txt.replace x ⟨#[c]⟩ z) = rp c (sg z) (sg x) := by
  have e : (idxs c 0 (sg x)).take (x.length + 1) = idxs c 0 (sg x) := List.take_of_length_le (by have := idxs_len c (sg x) 0; rw [sg_len] at this; omega)
  unfold Txt.replace
  rw [occ1, e]
  have h := rep_from x c (sg z) (sg x) 0 0 rfl (Nat.zero_le _) (Nat.le_refl _)
  split
  · rename_i hc
    have hc' : (idxs c 0 (sg x)).isEmpty = true := by
      rw [show ((⟨#[c]⟩ : Str).length == 0) = false from rfl, Bool.false_and, Bool.or_false] at hc; exact hc
    rw [List.isEmpty_iff.mp hc'] at h
    have h' : sg (strSub x 0 x.length) = [] ++ rp c (sg z) (sg x) := h
    rw [StrLaws.sub_whole] at h'
    exact h'
  · show sg (Txt.join z (partsBetween x (idxs c 0 (sg x)) 1)) = _
    rw [sg_join, StrLaws.partsBetween_eq, h]
    simp
theorem replace_join {z : Str} {row : List Str} (h : ∀ y ∈ row, 39 ∉ sg y) : Txt.replace (Txt.join ⟨#[39]⟩ row) ⟨#[39]⟩ z = Txt.join z row := by
  apply sg_ext
  rw [sg_replace, sg_join, sg_join]
  exact rp_jn fun l hl => by
    obtain ⟨y, hy, rfl⟩ := List.mem_map.mp hl
    exact h y hy
end
end
section
open PySem PySem.W PyProof.Rows PySem.Calls
section
theorem Rm.underB {A : Around} {k : Nat} {id : String} {args : Args} (h : Rm A (k + 1)) (hw : (Code.builtin id args).weight ≤ 1) (hu : (Code.builtin id args).cUnits ≤ 16) : Rm (A.under (.builtin id args)) k := by
  refine ⟨h.handled, ?_, ?_⟩
  · have := h.depth; show A.depth + (Code.builtin id args).weight + k < _; omega
  · have := h.units; show A.units + (Code.builtin id args).cUnits + 16 * k + 100 < _; omega
/-- an object is made by its class: its __init__ takes the new object, whose names are unset -/
theorem SpecP.make {gp : GP} {w : World} {K : Frag} {k : Nat} {C fI : Addr} {ks : List Str} {rest : List Value} {kw : List (Str × Value)} {B : Heap → Prop} {cs₀ : List HP} {Post : Addr → Addr → List HP → Prop} {nv : Nat}
    (hm : makesIn K C = true) (hi : findIn K (.ref C) "__init__" = some (some (.ref fI))) (ht : isFn K (.ref fI) = true) (hn : nv ≤ 500) (hBk : ∀ h h', B h → (∀ b o, h.get? b = some o → h'.get? b = some o) → B h')
    (h : ∀ x dx, SpecP gp w K k (.ref fI) ⟨.ref x :: rest, kw⟩ B (INS C ks x dx (List.replicate nv none) :: cs₀) (fun v cs => v = .none ∧ Post x dx cs)) :
    SpecP gp w K (k + 1) (.ref C) ⟨rest, kw⟩ B cs₀ (fun v cs => E2 fun x dx => v = .ref x ∧ Post x dx cs) := by
  intro A s hA T hH hG hB O
  have X := T.kin
  have hk1 : ∀ b o, s.heap.get? b = some o → ((s.heap.push emptyDict).push (instObj C s.heap.objs.size)).get? b = some o := fun b o e => Heap.get?_push_of_some _ (Heap.get?_push_of_some _ e)
  have ex : ((s.heap.push emptyDict).push (instObj C s.heap.objs.size)).get? (s.heap.objs.size + 1) = some (instO C s.heap.objs.size) := by
    have := Heap.get?_push_size (s.heap.push emptyDict) (o := instObj C s.heap.objs.size) rfl
    rw [Heap.size_push] at this; exact this
  have ed : ((s.heap.push emptyDict).push (instObj C s.heap.objs.size)).get? s.heap.objs.size = some (dictOf [] 0) := Heap.get?_push_of_some _ (Heap.get?_push_size _ rfl)
  have hins : (INS C ks (s.heap.objs.size + 1) s.heap.objs.size (List.replicate nv none)).ok ((s.heap.push emptyDict).push (instObj C s.heap.objs.size)) := ⟨Nat.succ_ne_self _, ex, [], 0, ed, ents_nil hn⟩
  have fr : ∀ a ∈ (INS C ks (s.heap.objs.size + 1) s.heap.objs.size (List.replicate nv none)).foot, s.heap.objs.size ≤ a := fun a ha => by
    cases ha with
    | head => exact Nat.le_succ _
    | tail _ ha => cases List.mem_singleton.mp ha; exact Nat.le_refl _
  refine make_core (prog := PySem.Challenge.pw_ny0433_01) (rest := rest) (kw := kw) (init := .ref fI) (h := s.heap) (makes_of X hm) (looks_findIn X hi) (fun self => bind_fn X self (beq_iff_eq.mp ht)) (.inl rfl) ?_
  have O' : Own K (frOf A) (INS C ks (s.heap.objs.size + 1) s.heap.objs.size (List.replicate nv none) :: cs₀) ((s.heap.push emptyDict).push (instObj C s.heap.objs.size)) := by
    refine ⟨fun c hc => ?_, List.pairwise_cons.mpr ⟨fun c hc a ha hb => ?_, O.apart⟩⟩
    · cases hc with
      | head => exact ⟨hins, fun a ha => ⟨T.free (fr a ha), fun q => by obtain ⟨_, o, _, _, ho, _⟩ := hH a q; exact absurd (Heap.lt_size ho) (Nat.not_lt.mpr (fr a ha))⟩⟩
      | tail _ hc =>
        refine ⟨c.loc (fun a ha => ?_) (O.own c hc).1, (O.own c hc).2⟩
        obtain ⟨o, ho⟩ := c.lt (O.own c hc).1 a ha
        rw [ho]; exact hk1 _ _ ho
    · obtain ⟨o, ho⟩ := c.lt (O.own c hc).1 a hb
      exact absurd (Heap.lt_size ho) (Nat.not_lt.mpr (fr a ha))
  refine codeAny_mono (h _ _ _ ⟨(s.heap.push emptyDict).push (instObj C s.heap.objs.size), s.gens, s.drawn, s.toks, s.os⟩ (hA.underB (Nat.le_of_ble_eq_true (by kernel_rfl!)) (Nat.le_of_ble_eq_true (by kernel_rfl!))) (T.keeps hk1) (fun a ha => ⟨(hH a ha).1, by obtain ⟨_, o, es, ep, ho, hd⟩ := hH a ha; exact ⟨o, es, ep, hk1 a o ho, hd⟩⟩) hG (hBk _ _ hB hk1) O') ?_
  rintro r s' ⟨v, cs₁, rfl, st, rfl, p⟩
  refine ⟨rfl, .ref (s.heap.objs.size + 1), cs₁, rfl, ⟨st.gens, st.os, fun a o e q q' => st.ext a o (hk1 a o e) (fun z => ?_) q', fun a o e q q' => st.frs a o (hk1 a o e) q fun z => ?_, fun c hc => ⟨(st.own c hc).1, fun a ha => ?_⟩, st.apart⟩, _, _, rfl, p⟩
  · obtain ⟨c, hc, hx⟩ := mem_feet.mp z
    cases hc with
    | head => exact absurd (Heap.lt_size e) (Nat.not_lt.mpr (fr a hx))
    | tail _ hc => exact q (mem_feet.mpr ⟨c, hc, hx⟩)
  · obtain ⟨c, hc, hx⟩ := mem_feet.mp z
    cases hc with
    | head => exact absurd (Heap.lt_size e) (Nat.not_lt.mpr (fr a hx))
    | tail _ hc => exact q' (mem_feet.mpr ⟨c, hc, hx⟩)
  · rcases (st.own c hc).2 a ha with z | z
    · obtain ⟨d, hd, hx⟩ := mem_feet.mp z
      cases hd with
      | head => exact .inr (fr a hx)
      | tail _ hd => exact .inl (mem_feet.mpr ⟨d, hd, hx⟩)
    · refine .inr (Nat.le_trans ?_ z)
      show s.heap.objs.size ≤ ((s.heap.push emptyDict).push (instObj C s.heap.objs.size)).objs.size
      rw [Heap.size_push, Heap.size_push]; omega
end
end
section
open PySem PySem.W PyProof.Rows PySem.Calls
section
section
variable {w : World} {A : Around} {fm : Fm} {vs : Vals} {cs : List HP} {E : Value → Vals → List HP → Prop}
theorem G_Attr {value : Expr} {attr : Str} {p : Pos} {Q : Value → Vals → List HP → Prop} (h : G w A fm (eval value fm.env) (AttrK w A fm attr Q E) E vs cs) (hb : plainBase value = true) : G w A fm (eval (.Attribute value attr p) fm.env) Q E vs cs := fun s S => by
  rw [arm_eval_Attribute, base_of hb]
  refine wpAny_bind (wpAny_mono (h s S) (fun o s₁ y => ?_) fun _ _ x => x)
  obtain ⟨_, _, S', q⟩ := y
  refine wpAny_bind (wpAny_standAt (wpAny_bind (wpAny_holding (wpAny_mono (q s₁ S') (fun r s₂ y => ?_) fun _ _ x => x))))
  exact wpAny_bind (wpAny_letTemporaryGo (wpAny_pure y))
theorem G_AssignA {o value : Expr} {attr : Str} {p' p : Pos} {Q : Flow → Vals → List HP → Prop} (h : G w A fm (eval value fm.env) (AsgAK w A fm o attr Q E) E vs cs)
    (hs : swapsWith value (some (.Attribute o attr p')) p.line fm.env = pure false) : G w A fm (exec (.Assign [.Attribute o attr p'] value p) fm.env) Q E vs cs := fun s S =>
  plainObj_wpAny_Assign_Attribute (wpAny_mono (h s S) (fun v s₁ y => wpAny_mono (At.go y) (fun ov s₂ y => At.go y) fun _ _ x => x) fun _ _ x => x) hs
theorem G_AugA {o value : Expr} {attr : Str} {tp p : Pos} {op : Operator} {Q : Flow → Vals → List HP → Prop} (h : G w A fm (eval o fm.env) (AugK0 w A fm attr value op Q E) E vs cs) :
    G w A fm (exec (.AugAssign (.Attribute o attr tp) op value p) fm.env) Q E vs cs := fun s S =>
  wpAny_AugAssign_AttributeAny (wpAny_mono (h s S) (fun ov s₁ y => wpAny_mono (At.go y) (fun old s₂ y => wpAny_mono (At.go y) (fun v s₃ y => wpAny_mono (At.go y) (fun new s₄ y => At.go y) fun _ _ x => x) fun _ _ x => x) fun _ _ x => x) fun _ _ x => x)
/-- a method of an own class, by getMethod -/
theorem G_Meth {o : Expr} {name : Str} {apos p : Pos} {args : List Expr} {pl : Sem Bool} {Q : Value → Vals → List HP → Prop} (h : G w A fm (eval o fm.env) (fun ov vs cs => G w A fm (getMethod ov name pl) (fun fx vs cs => G w A fm (callWith p fx.1 fx.2 (backTo p (starEach args fm.env)) []) Q E vs cs) E vs cs) E vs cs)
    (he : eval (.Call (.Attribute o name apos) args [] p) fm.env = (do
      let ov ← eval o fm.env
      standAt apos.atName
      let (f, first) ← holding [ov] (getMethod ov name pl)
      callWith p f first (backTo p (starEach args fm.env)) [])) : G w A fm (eval (.Call (.Attribute o name apos) args [] p) fm.env) Q E vs cs := fun s S =>
  MethodCall_ (wpAny_mono (h s S) (fun ov s₁ y => wpAny_mono (At.go y) (fun fx s₂ y => At.go y) fun _ _ x => x) fun _ _ x => x) he
/-- the parts hold an own object -/
theorem insAt {C : Addr} {ks : List Str} {x dx : Addr} {as : Vals} (hm : INS C ks x dx as ∈ cs) : ∀ s, Sit fm vs cs s → (INS C ks x dx as).ok s.heap := fun s S => (S.own _ hm).1
end
end
end
section
open PySem PySem.W PyProof.Rows PySem.Calls Builtin PySem.Builtin.Getset_descriptor
section
/-- the slots with one of them set -/
noncomputable abbrev slotsPut (sl : Array (Option Value)) (i : Nat) (v : Value) : Array (Option Value) := (sl ++ Array.replicate (i + 1 - sl.size) none).setIfInBounds i (some v)
section
variable {w : World} {A : Around} {K : Frag} {s : Shared}
/-- a slot of an object is set: one object turns -/
theorem slotPut {R : Result → Shared → Prop} {x C p : Addr} {i : Nat} {ox : Obj} {od : Option Obj} {v : Value} (X : K.In s.heap) (I : InstAt s.heap x ox C od) (hp : slotIn K p C = some i) (hi : i < 1000)
    (h : R (.ok (.ret .none)) { s with heap := s.heap.update x fun o => { o with slots := slotsPut o.slots i v } }) :
    codeAny (MD w) A (.call (.builtin "member_descriptor.__set__") ⟨[.ref p, .ref x, v], []⟩) R s := by
  obtain ⟨n, tn, owner, behind, tb, d, sl, cd, ho, hc, hm, hb, rfl⟩ := slot_of X hp
  cases s with
  | mk hh g dr t os =>
    have a0 := I.type (M := MD w)
    have a1 := looks_mroIn (M := MD w) X hm
    have a2 : Looks (MD w) hh (Slots.slotNamesOf (.ref C)) cd.slotNames := (looks_clsIn X hc).andThen .now
    have hx := I.at_
    dsimp only at ho hx a0 a1
    have b0 := looks_field (M := MD w) ho 0 (v := .str n tn) rfl
    have b1 := looks_field (M := MD w) ho 1 (v := owner) rfl
    have b3 := looks_field (M := MD w) ho 3 (v := .builtin "proto.slot#set") rfl
    have b4 := looks_field (M := MD w) ho 4 (v := .int behind tb) rfl
    have b5 : Looks (MD w) hh (descrItself (.ref p)) [.ref p] := ((Looks.ld (part := none) ho).andThen .now).andThen (Looks.of_pure (by kernel_rfl))
    refine codeAny_call_builtin KF.slot_mset.plain KF.entry_mset (KF.slot_mset.check _ _ _ _ _ _ _ _ ⟨_, ho, rfl⟩ (KF.args_mset _ _ _) ?_)
    unfold Builtin.«member_descriptor.__set__» descrSet descrStoreThrough descrCheckInstance descrNameAndClass isInstance
    repeat lk
    refine ⟨Code.quiet_builtin _ (by decide +kernel), codeAny_builtin KF.entry_slotset ?_⟩
    unfold Builtin.«proto.slot#set» Slots.target
    repeat lk
    rw [if_neg hb]
    refine wpAny_pure (wpAny_bind ?_)
    unfold setSlotAt
    dsimp only
    rw [if_neg (by rw [sizeLine_eq]; omega)]
    exact wpAny_updatePart hx (wpAny_pure h)
end
/-- an object with slots -/
noncomputable abbrev slO (C dx : Addr) (sl : Array (Option Value)) : Obj := ⟨.ref C, some dx, .plain, sl⟩
noncomputable def SLT (C x dx : Addr) (sl : Array (Option Value)) : HP where
  foot := [x, dx]
  ok h := x ≠ dx ∧ h.get? x = some (slO C dx sl) ∧ ∃ k, h.get? dx = some (dictOf [] k)
  loc e := fun ⟨n, p, k, q⟩ => ⟨n, (e _ (.head _)).trans p, k, (e _ (.tail _ (.head _))).trans q⟩
  lt := fun ⟨n, p, k, q⟩ b hb => by
    cases hb with
    | head => exact ⟨_, p⟩
    | tail _ hb => cases List.mem_singleton.mp hb; exact ⟨_, q⟩
theorem SLT.inst {C x dx : Addr} {sl : Array (Option Value)} {h : Heap} (o : (SLT C x dx sl).ok h) : ∃ k, InstAt h x (slO C dx sl) C (some (dictOf [] k)) := let ⟨k, q⟩ := o.2.2; ⟨k, o.2.1, rfl, rfl, q⟩
structure SlotOk (K : Frag) (C : Addr) (name : Str) (p : Addr) (i : Nat) : Prop where
  set : findIn K (.ref C) "__setattr__" = some (some (.builtin "object.__setattr__"))
  over : plainOver K C = true
  taker : takerIn K C name = some (some (.ref p))
  ty : typeIn K (.ref p) = some (.type "member_descriptor")
  slot : slotIn K p C = some i
  small : i < 1000
section
variable {w : World} {A : Around} {fm : Fm} {vs : Vals} {cs : List HP} {E : Value → Vals → List HP → Prop}
theorem G_setSlot {C x dx p : Addr} {sl : Array (Option Value)} {name : Str} {v : Value} {i : Nat} {Q : Unit → Vals → List HP → Prop} (ok : SlotOk fm.K C name p i) (h : Q () vs (SLT C x dx (slotsPut sl i v) :: cs)) :
    G w A fm (setAttr (.ref x) name v) Q E vs (SLT C x dx sl :: cs) := fun s S => by
  have o := (S.own _ (.head _)).1
  obtain ⟨k, I⟩ := SLT.inst o
  have X := S.top.kin
  refine set_plain X I ok.set (osa_descr (s := { s with toks := s.toks + 1 }) KF.slot_mset X I ok.over ok.taker ok.ty (slotPut (s := { s with toks := s.toks + 1 }) X I ok.slot ok.small ?_))
  refine ⟨vs, _, S.upd (c' := SLT C x dx (slotsPut sl i v)) (a := x) (t := s.toks + 1) (.head _) (Heap.SameBut.update ..) (fun _ q => q) ⟨o.1, ?_, ?_⟩, h⟩
  · exact Heap.get?_update_self _ o.2.1 rfl
  · obtain ⟨k, q⟩ := o.2.2
    exact ⟨k, (Heap.get?_update_other _ _ o.1).trans q⟩
/-- a slot is read -/
structure SlotGet (K : Frag) (C : Addr) (name : Str) (p : Addr) (i : Nat) : Prop where
  get : plainGet K C name = true
  cls : isClsIn K C = true
  find : findIn K (.ref C) name = some (some (.ref p))
  getter : specialIn K (.ref p) "__get__" = some (some (.builtin "member_descriptor.__get__"))
  takes : takesIn K (.ref p) = some true
  slot : slotIn K p C = some i
theorem G_getSlot {C x dx p : Addr} {sl : Array (Option Value)} {name : Str} {v : Value} {i : Nat} {ex : Bool} {Q : Value → Vals → List HP → Prop} (ok : SlotGet fm.K C name p i) (hi : ∀ s, Sit fm vs cs s → (SLT C x dx sl).ok s.heap) (hv : (sl[i]?).join = some v) (hh : handedIn v = true) (h : Q v vs cs) :
    G w A fm (getAttr (.ref x) name ex) Q E vs cs := fun s S => by
  obtain ⟨k, I⟩ := SLT.inst (hi s S)
  have X := S.top.kin
  exact get_bind X I (plainGet_of ok.get).1 (findObj_data ok.cls ok.find ok.getter ok.takes) (plainGet_of ok.get).2 (wpAny_call (slot_get (s := { s with toks := s.toks + 1 }) X I ok.slot hv (handed_on hh ⟨vs, cs, S.toks _, h⟩)))
/-- a property is read: its function is called -/
structure PropGet (K : Frag) (C : Addr) (name : Str) (p fget : Addr) (rest : List Value) : Prop where
  get : plainGet K C name = true
  cls : isClsIn K C = true
  find : findIn K (.ref C) name = some (some (.ref p))
  getter : specialIn K (.ref p) "__get__" = some (some (.builtin "property.__get__"))
  takes : takesIn K (.ref p) = some true
  prec : recIn K p "property" = some (.ref fget :: rest)
theorem G_prop {C x dx p fget : Addr} {ks : List Str} {as : Vals} {rest : List Value} {name : Str} {ex : Bool} {k : Nat} {B : Heap → Prop} {cs₀ more : List HP} {Post : Value → List HP → Prop} {Q : Value → Vals → List HP → Prop} (ok : PropGet fm.K C name p fget rest) (hi : ∀ s, Sit fm vs (cs₀ ++ more) s → (INS C ks x dx as).ok s.heap)
    (hs : Spec w fm.K k (.ref fget) ⟨[.ref x], []⟩ B cs₀ Post) (hA : Rm A (k + 1)) (hB : ∀ s, Sit fm vs (cs₀ ++ more) s → B s.heap) (h : ∀ v cs₁, Post v cs₁ → handedIn v = true ∧ Q v vs (cs₁ ++ more)) (hf : fm.fr = frOf A := by rfl) : G w A fm (getAttr (.ref x) name ex) Q E vs (cs₀ ++ more) := fun s S => by
  obtain ⟨es, n, I, _⟩ := INS.inst (hi s S)
  have X := S.top.kin
  refine get_bind X I (plainGet_of ok.get).1 (findObj_data ok.cls ok.find ok.getter ok.takes) (plainGet_of ok.get).2 (wpAny_call (prop_get (s := { s with toks := s.toks + 1 }) X ok.prec ?_))
  have S' := S.toks (s.toks + 1)
  refine codeAny_mono (hs fm.gp A.in1 _ ⟨hA.handled, by have := hA.depth; show A.depth + k < _; omega, by have := hA.units; show A.units + 1 + 16 * k + 100 < _; omega⟩ S'.top (show FrH _ (frOf A) _ from hf ▸ S'.frH) S'.gens (hB _ S') (show Own _ (frOf A) _ _ from hf ▸ S'.owned)) ?_
  rintro r s' ⟨v, cs₁, rfl, T, p⟩
  obtain ⟨hh, q⟩ := h v cs₁ p
  exact handed_on hh ⟨vs, cs₁ ++ more, S'.call (show Stp fm.gp _ fm.fr _ _ _ from hf.symm ▸ T), q⟩
end
end
end
section
open PySem PySem.W PyProof.Rows PySem.Calls
section
section
variable {w : World} {A : Around} {fm : Fm} {vs : Vals} {cs : List HP} {E : Value → Vals → List HP → Prop}
theorem G_typeI {i : Int} {t : Tok} {Q : Value → Vals → List HP → Prop} (h : Q (.type "int") vs cs) : G w A fm (call (.type "type") [.int i t]) Q E vs cs := fun s S => call_type_of (typeIs_int s i t) (by decide) ⟨vs, cs, S, h⟩
theorem G_typeS {x : Str} {t : Tok} {Q : Value → Vals → List HP → Prop} (h : Q (.type "str") vs cs) : G w A fm (call (.type "type") [.str x t]) Q E vs cs := fun s S => call_type_of (typeIs_str s x t) (by decide) ⟨vs, cs, S, h⟩
theorem G_intI {i : Int} {t : Tok} {Q : Value → Vals → List HP → Prop} (h : Q (.int i t) vs cs) : G w A fm (call (.type "int") [.int i t]) Q E vs cs := fun s S => call_int_int ⟨vs, cs, S, h⟩
noncomputable abbrev MthK (w : World) (A : Around) (fm : Fm) (C f : Addr) (ks : List Str) (p : Pos) (args : List Expr) (Q : Value → Vals → List HP → Prop) (E : Value → Vals → List HP → Prop) (ov : Value) (vs : Vals) (cs : List HP) : Prop := E3 fun x dx as => A3 (ov = .ref x) (∀ s, Sit fm vs cs s → (INS C ks x dx as).ok s.heap) (G w A fm (callWith p (.ref f) [.ref x] (backTo p (starEach args fm.env)) []) Q E vs cs)
/-- a method of an own object -/
theorem G_methI {C f : Addr} {ks : List Str} {o : Expr} {name : Str} {apos p : Pos} {args : List Expr} {pl : Sem Bool} {Q : Value → Vals → List HP → Prop} (ok : ClsOk fm.K C ks) (hf : findIn fm.K (.ref C) name = some (some (.ref f))) (ht : isFn fm.K (.ref f) = true) (hn : name ∉ ks)
    (h : G w A fm (eval o fm.env) (MthK w A fm C f ks p args Q E) E vs cs)
    (he : eval (.Call (.Attribute o name apos) args [] p) fm.env = (do
      let ov ← eval o fm.env
      standAt apos.atName
      let (f, first) ← holding [ov] (getMethod ov name pl)
      callWith p f first (backTo p (starEach args fm.env)) [])) : G w A fm (eval (.Call (.Attribute o name apos) args [] p) fm.env) Q E vs cs :=
  G_Meth (pl := pl) (G.mono h (fun ov vs cs ⟨x, dx, as, e, hi, g⟩ => by subst e; exact G_getMeth ok hi hf ht hn g) fun _ _ _ e => e) he
/-- a call that neither takes nor gives parts -/
theorem G_call0 {k : Nat} {f : Value} {args : List Value} {kw : List (Str × Value)} {B : Heap → Prop} {P : Value → Prop} {Q : Value → Vals → List HP → Prop} (hs : Spec w fm.K k f ⟨args, kw⟩ B [] (fun v cs => P v ∧ cs = [])) (hA : Rm A k) (hB : ∀ s, Sit fm vs cs s → B s.heap) (h : ∀ v, P v → Q v vs cs) (hf : fm.fr = frOf A := by rfl) : G w A fm (call f args kw) Q E vs cs :=
  G_spec (cs₀ := []) (rest := cs) hs hA hB (fun v cs₁ ⟨p, e⟩ => by subst e; exact h v p) hf
/-- a call that takes one part and gives one -/
theorem G_call1 {k : Nat} {f : Value} {args : List Value} {kw : List (Str × Value)} {B : Heap → Prop} {c : HP} {P : Value → HP → Prop} {Q : Value → Vals → List HP → Prop} (hs : Spec w fm.K k f ⟨args, kw⟩ B [c] (fun v cs => ∃ c', P v c' ∧ cs = [c'])) (hA : Rm A k) (hB : ∀ s, Sit fm vs (c :: cs) s → B s.heap) (h : ∀ v c', P v c' → Q v vs (c' :: cs)) (hf : fm.fr = frOf A := by rfl) : G w A fm (call f args kw) Q E vs (c :: cs) :=
  G_spec (cs₀ := [c]) (rest := cs) hs hA hB (fun v cs₁ ⟨c', p, e⟩ => by subst e; exact h v c' p) hf
/-- a slice of a text -/
theorem G_SubSlS {value : Expr} {lower upper : Option Expr} {p pos : Pos} {Q : Value → Vals → List HP → Prop}
    (h : G w A fm (eval value fm.env) (fun o vs cs => G w A fm (evalPart lower fm.env) (fun vl vs cs => G w A fm (evalPart upper fm.env) (fun vu vs cs => E6 fun x t i ti j tj => A5 (o = .str x t) (vl = .int i ti) (vu = .int j tj) (x.length ≤ sizeLine) (∀ t', Q (.str (Txt.slice x (some i) (some j)) t') vs cs)) E vs cs) E vs cs) E vs cs)
    (ht : ∀ o r, letTemporaryGo value o r = pure ()) : G w A fm (eval (.Subscript value (.Slice lower upper none p) pos) fm.env) Q E vs cs := fun s S => by
  refine wpAny_Subscript_Slice (T := "str") F.slot_str_getitem.lookup (wpAny_mono (h s S) (fun o s₁ y => wpAny_Slice (wpAny_mono (At.go y) (fun vl s₂ y => wpAny_mono (At.go y) (fun vu s₃ y => ?_) fun _ _ x => x) fun _ _ x => x)) fun _ _ x => x) ht
  obtain ⟨vs₁, cs₁, S₁, x, t, i, ti, j, tj, rfl, rfl, rfl, hsz, qq⟩ := y
  rw [evalPart_none]
  refine wpAny_pure ⟨typeIs_str _ _ _, ?_⟩
  have z := SBH.sliceItem_ss (prog := PySem.Challenge.pw_ny0433_01) (w := w) (A := A) (E := fun e => At fm (E e)) (P := fun h' => ∀ b o, s₃.heap.get? b = some o → h'.get? b = some o) (s := s₃) (x := x) (t := t) (i := i) (j := j) (ui := ti) (uj := tj)
    (Q := fun a => At fm (Q a)) (fun h ob k b o e => Heap.get?_push_of_some _ (k b o e)) (fun _ _ e => e) (fun h' t' k kp => ⟨vs₁, cs₁, S₁.grow (cn := []) kp (fun _ q => (nomatch q)) List.Pairwise.nil, qq t'⟩) hsz
  obtain ⟨_, _, _, _, z⟩ := z
  exact z
end
end
end
section
open PySem PySem.W PyProof.Rows PySem.Calls
open Builtin Builtin.Str
section
theorem idxs_empty (c : Nat) : ∀ (l : List Nat) (k : Nat), (idxs c k l).isEmpty = !decide (c ∈ l)
  | [], k => rfl
  | x :: l, k => by
    show (if x = c then k :: idxs c (k + 1) l else idxs c (k + 1) l).isEmpty = _
    by_cases h : x = c
    · subst h; simp
    · rw [if_neg h, idxs_empty c l (k + 1)]
      have : (c ∈ x :: l) ↔ c ∈ l := by rw [List.mem_cons]; exact ⟨fun q => q.elim (fun e => absurd e.symm h) id, .inr⟩
      simp [this]
theorem in_one (x : Str) (c : Nat) : (!(occurrences x ⟨#[c]⟩ 0 x.length 1).isEmpty) = decide (c ∈ sg x) := by
  rw [occ1]
  have : ∀ l : List Nat, (l.take 1).isEmpty = l.isEmpty := fun l => by cases l <;> rfl
  rw [this, idxs_empty]; simp
section
variable {α : Type} {w : World} {A : Around} {fm : Fm} {vs : Vals} {cs : List HP} {E : Value → Vals → List HP → Prop}
theorem G_lenS {x : Str} {t : Tok} {Q : Value → Vals → List HP → Prop} (hx : x.length ≤ 1000000) (h : ∀ t, Q (.int x.length t) vs cs) : G w A fm (call (.builtin "len") [.str x t]) Q E vs cs := fun s S =>
  PyProof.Rows.len_str (by omega) ⟨vs, cs, S.toks _, h _⟩
theorem G_inS {x : Str} {c : Nat} {t u : Tok} {Q : Value → Vals → List HP → Prop} (h : Q (.bool (decide (c ∈ sg x))) vs cs) : G w A fm (compareOp .In (.str ⟨#[c]⟩ u) (.str x t)) Q E vs cs := fun s S =>
  PyProof.Rows.in_str (by rw [in_one]; exact ⟨vs, cs, S, h⟩)
theorem G_notInS {x : Str} {c : Nat} {t u : Tok} {Q : Value → Vals → List HP → Prop} (h : Q (.bool (!decide (c ∈ sg x))) vs cs) : G w A fm (compareOp .NotIn (.str ⟨#[c]⟩ u) (.str x t)) Q E vs cs := fun s S =>
  PyProof.Rows.notIn_str (by rw [in_one]; exact ⟨vs, cs, S, h⟩)
theorem G_truthyS {x : Str} {t : Tok} {Q : Bool → Vals → List HP → Prop} (hx : x.length ≤ 1000000) (h : Q ((x.length : Int) != 0) vs cs) : G w A fm (truthy (.str x t)) Q E vs cs := fun s S =>
  P.truthy_str (by omega) ⟨vs, cs, S.toks _, h⟩
theorem G_truthyI {a : Int} {t : Tok} {Q : Bool → Vals → List HP → Prop} (h : Q (a != 0) vs cs) : G w A fm (truthy (.int a t)) Q E vs cs := fun s S => P.truthy_int ⟨vs, cs, S, h⟩
theorem G_truthyN {Q : Bool → Vals → List HP → Prop} (h : Q false vs cs) : G w A fm (truthy .none) Q E vs cs := fun s S => PyProof.Rows.truthy_none ⟨vs, cs, S, h⟩
/-- the same by another value -/
theorem Q_cast {β : Type} {Q : β → Vals → List HP → Prop} {a b : β} (e : a = b) (h : Q b vs cs) : Q a vs cs := e ▸ h
end
end
section
section
variable {α : Type} {w : World} {A : Around} {fm : Fm} {vs : Vals} {cs : List HP} {E : Value → Vals → List HP → Prop}
/-- a slice of a text that stands anywhere -/
theorem G_SubSlT {value : Expr} {lower upper : Option Expr} {p pos : Pos} {Q : Value → Vals → List HP → Prop}
    (h : G w A fm (eval value fm.env) (fun o vs cs => G w A fm (evalPart lower fm.env) (fun vl vs cs => G w A fm (evalPart upper fm.env) (fun vu vs cs => E6 fun x t i ti j tj => A5 (o = .str x t) (vl = .int i ti) (vu = .int j tj) (x.length ≤ sizeLine) (∀ t', Q (.str (Txt.slice x (some i) (some j)) t') vs cs)) E vs cs) E vs cs) E vs cs) :
    G w A fm (eval (.Subscript value (.Slice lower upper none p) pos) fm.env) Q E vs cs := fun s S => by
  refine Subscript_ (wpAny_mono (h s S) (fun o s₁ y => wpAny_Slice (wpAny_mono (At.go y) (fun vl s₂ y => wpAny_mono (At.go y) (fun vu s₃ y => ?_) fun _ _ x => x) fun _ _ x => x)) fun _ _ x => x)
  obtain ⟨vs₁, cs₁, S₁, x, t, i, ti, j, tj, rfl, rfl, rfl, hsz, qq⟩ := y
  rw [evalPart_none]
  have z := SBH.sliceItem_ss (prog := PySem.Challenge.pw_ny0433_01) (w := w) (A := A) (E := fun e => At fm (E e)) (P := fun h' => ∀ b o, s₃.heap.get? b = some o → h'.get? b = some o) (s := s₃) (x := x) (t := t) (i := i) (j := j) (ui := ti) (uj := tj)
    (Q := fun a => At fm (Q a)) (fun h ob k b o e => Heap.get?_push_of_some _ (k b o e)) (fun _ _ e => e) (fun h' t' k kp => ⟨vs₁, cs₁, S₁.grow (cn := []) kp (fun _ q => (nomatch q)) List.Pairwise.nil, qq t'⟩) hsz
  obtain ⟨_, _, _, _, z⟩ := z
  exact wpAny_pure (tail_any (typeIs_str _ _ _) F.slot_str_getitem.lookup z rfl)
/-- a statement whose ways meet -/
inductive Mid (R : Vals → List HP → Prop) (fl : Flow) (vs : Vals) (cs : List HP) : Prop | mk (e : fl = .next) (h : R vs cs) : Mid R fl vs cs
theorem G_mid (R : Vals → List HP → Prop) {st : Stmt} {rest : List Stmt} {Q : Flow → Vals → List HP → Prop} (h : G w A fm (exec st fm.env) (Mid R) NoE vs cs) (k : ∀ vs cs, R vs cs → G w A fm (execs rest fm.env) Q E vs cs) :
    G w A fm (execs (st :: rest) fm.env) Q E vs cs :=
  G_cons (G.mono h (fun fl vs cs ⟨e, r⟩ => by subst e; exact k vs cs r) fun _ _ _ z => z.elim)
end
end
end
section
open PySem PySem.W PyProof.Rows PySem.Calls
section
noncomputable def TUP (a : Addr) (xs : List Value) : HP := HP.one a fun o => ∃ n, o = tupO xs n
theorem TUP.tup {a : Addr} {xs : List Value} {h : Heap} (r : (TUP a xs).ok h) : h.IsTuple a xs.toArray := let ⟨_, e, n, q⟩ := r; ⟨_, e, by rw [q], n, by rw [q]⟩
theorem sitTup {fm : Fm} {vs : Vals} {cs : List HP} {a : Addr} {xs : List Value} (hm : TUP a xs ∈ cs) : ∀ s, Sit fm vs cs s → s.heap.IsTuple a xs.toArray := fun s S => TUP.tup (S.own _ hm).1
/-- binding that makes new parts -/
noncomputable def BindsV (K : Frag) (fd : FuncData) (args : Args) (B : Heap → Prop) (binds : Addr → List (Str × Value)) (cn : Addr → List HP) : Prop :=
  ∀ (M : Model) (A : Around) (E : Value → Shared → Prop) (Q : List (Str × Value) → Shared → Prop) (s : Shared), TP K s.heap → B s.heap →
    (∀ D h' tk, (∀ b o, s.heap.get? b = some o → h'.get? b = some o) → s.heap.objs.size ≤ h'.objs.size → (∀ c ∈ cn D, c.ok h' ∧ ∀ a ∈ c.foot, s.heap.objs.size ≤ a) → (cn D).Pairwise Apart → Q (binds D) { s with heap := h', toks := tk }) → wpAny M A (bindArgs fd args) Q E s
theorem SpecP.of_bodyV {gp : GP} {w : World} {K : Frag} {k : Nat} {f : Addr} {fd : FuncData} {ns : List Str} {gs : List (Str × Value)} {args : Args} {B : Heap → Prop} {cs₀ : List HP} {Post : Value → List HP → Prop} {body : List Stmt} {binds : Addr → List (Str × Value)} {cn : Addr → List HP} {vs₀ : Addr → Vals}
    (ok : FnOk K f fd ns gs) (hcell : ∀ x ∈ fd.scope.names, x.2 ≠ .cell) (hb : fd.body = .stmts body) (hbind : BindsV K fd args B binds cn) (hloc : ∀ D, ∀ x ∈ binds D, fd.scope.names.lookup x.1 = some .local)
    (hv : ∀ D, Agree ns (vs₀ D) (fun x => (binds D).reverse.lookup x))
    (h : ∀ A b L D, Rm A k → TP K b.heap → B b.heap → G w A ⟨K, feet cs₀, b, callEnv fd L f, ns, gs, gp, frOf A⟩ (execs body (callEnv fd L f)) (Out Post) (fun _ _ _ => False) (vs₀ D) (cn D ++ cs₀)) :
    SpecP gp w K (k + 1) (.ref f) args B cs₀ Post := by
  intro A s hA T hH hG hB O
  refine codeAny_call_function (by have := hA.depth; omega) (T.kin _ _ ok.look) rfl ok.co ok.gen hb (codeRec_of T.kin ok.code) (hbind _ _ _ _ s T hB fun D h' tk hk hsz hc hap => ?_)
  refine wpAny_newFunctionEnv hcell (hloc D) (fun h₀ hns₀ hsb₀ => ⟨((T.keeps hk).lim).fresh _ hsb₀, codeAny_func ?_⟩) ok.kind
  dsimp only at hns₀ hsb₀ ⊢
  have hk0 : ∀ b o, h'.get? b = some o → h₀.get? b = some o := fun b o e => hsb₀.extBut b o (Nat.ne_of_lt (Heap.lt_size e)) (Heap.get?_push_of_some _ e)
  have S : Sit ⟨K, feet cs₀, s, callEnv fd h'.objs.size f, ns, gs, gp, frOf (A.deeper (callEnv fd h'.objs.size f))⟩ (vs₀ D) (cn D ++ cs₀) { s with heap := h₀, toks := tk + (binds D).length } := by
    refine ⟨⟨fun p hp => ok.gok p hp _, ⟨ok.glob, ok.bui⟩, T, fun a ha => ?_, ok.nd, fun x hx => ok.loc x hx, ok.dbg, ok.kind, hsz, fun a ha hn => ⟨(hH a (frOf_deeper rfl ha hn)).1, own_fr O (frOf_deeper rfl ha hn)⟩⟩, hG, rfl, fun a o e _ _ => hk0 a o (hk a o e), frs_new hH (fun a o e => hk0 a o (hk a o e)) fun a ha hn => frOf_deeper rfl ha hn, ⟨_, hns₀, hv D⟩, fun c hcm => ?_, ?_⟩
    · obtain ⟨c, hc, ha⟩ := mem_feet.mp ha
      exact ((O.own c hc).2 a ha).1
    · rcases List.mem_append.mp hcm with hcm | hcm
      · obtain ⟨p1, p2⟩ := hc c hcm
        refine ⟨c.loc (fun a ha => by obtain ⟨o, ho⟩ := c.lt p1 a ha; rw [ho]; exact hk0 _ _ ho) p1, fun a ha => .inr (p2 a ha), fun z => ?_⟩
        obtain ⟨o, ho⟩ := c.lt p1 _ z
        exact absurd (Heap.lt_size ho) (Nat.lt_irrefl _)
      · refine ⟨c.loc (fun a ha => ?_) (O.own c hcm).1, fun a ha => .inl (mem_feet.mpr ⟨c, hcm, ha⟩), fun z => ?_⟩
        · obtain ⟨o, ho⟩ := c.lt (O.own c hcm).1 a ha
          rw [ho]; exact hk0 _ _ (hk _ _ ho)
        · obtain ⟨o, ho⟩ := c.lt (O.own c hcm).1 _ z
          exact absurd (Heap.lt_size (hk _ _ ho)) (Nat.lt_irrefl _)
    · refine List.pairwise_append.mpr ⟨hap, O.apart, fun c hcm d hd a z1 z2 => ?_⟩
      obtain ⟨o, ho⟩ := d.lt (O.own d hd).1 a z2
      exact absurd (Heap.lt_size ho) (Nat.not_lt.mpr ((hc c hcm).2 a z1))
  refine wpAny_mono (h (A.deeper (callEnv fd h'.objs.size f)) s h'.objs.size D hA.deeper T hB _ S) (fun fl s' x => ?_) fun e s' x => ?_
  · obtain ⟨vs', cs', S', cs₁, junk, p, q⟩ := x
    exact ⟨_, cs₁, rfl, (S'.perm p).leave fun a ha hn => frOf_deeper rfl ha hn, q⟩
  · obtain ⟨_, _, _, z⟩ := x
    exact z.elim
/-- a tuple of what is left over -/
theorem BindsV.tup {K : Frag} {fd : FuncData} {args : Args} {B : Heap → Prop} {bv : Value → List (Str × Value)} {xs : List Value} (hsz : xs.length ≤ sizeLine) (h : bindArgs fd args = newTuple xs >>= fun v => pure (bv v)) : BindsV K fd args B (fun a => bv (.ref a)) (fun D => [TUP D xs]) := fun M A E Q s T hB k => by
  rw [h]
  refine wpAny_bind (wpAny_newTuple ?_ hsz)
  refine wpAny_pure (k s.heap.objs.size _ _ (fun _ _ e => Heap.get?_push_of_some _ e) (by rw [Heap.size_push]; exact Nat.le_succ _) (one_mem ⟨⟨_, Heap.get?_push_size _ rfl, 0, rfl⟩, fun a ha => by cases List.mem_singleton.mp ha; exact Nat.le_refl _⟩) (List.pairwise_singleton _ _))
end
end
section
open PySem PySem.W PyProof.Rows PySem.Calls
section
section
variable {w : World} {A : Around} {fm : Fm} {vs : Vals} {cs : List HP} {E : Value → Vals → List HP → Prop} {Q : Value → Vals → List HP → Prop}
theorem G_isiS {y : Str} {t : Tok} (h : Q (.bool true) vs cs) : G w A fm (call (.builtin "isinstance") [.str y t, .type "str"]) Q E vs cs := fun s S => IsiPair.str_str ⟨vs, cs, S, h⟩
theorem G_isNN (h : Q (.bool true) vs cs) : G w A fm (compareOp .Is .none .none) Q E vs cs := G_is rfl h
theorem G_isSN {y : Str} {t : Tok} (h : Q (.bool false) vs cs) : G w A fm (compareOp .Is (.str y t) .none) Q E vs cs := G_is rfl h
theorem G_isRN {a : Addr} (h : Q (.bool false) vs cs) : G w A fm (compareOp .Is (.ref a) .none) Q E vs cs := G_is rfl h
theorem G_isNotNN (h : Q (.bool false) vs cs) : G w A fm (compareOp .IsNot .none .none) Q E vs cs := G_isNot rfl h
theorem G_isNotSN {y : Str} {t : Tok} (h : Q (.bool true) vs cs) : G w A fm (compareOp .IsNot (.str y t) .none) Q E vs cs := G_isNot rfl h
theorem G_isNotRN {a : Addr} (h : Q (.bool true) vs cs) : G w A fm (compareOp .IsNot (.ref a) .none) Q E vs cs := G_isNot rfl h
theorem G_truthyS0 {x : Str} {t : Tok} {Q : Bool → Vals → List HP → Prop} (hx : x.length = 0) (h : Q false vs cs) : G w A fm (truthy (.str x t)) Q E vs cs := G_truthyS (by rw [hx]; decide) (by rw [hx]; exact h)
theorem G_truthyS1 {x : Str} {t : Tok} {Q : Bool → Vals → List HP → Prop} (hx : x.length ≠ 0) (hl : x.length ≤ 1000000) (h : Q true vs cs) : G w A fm (truthy (.str x t)) Q E vs cs := G_truthyS hl (by
  have : ((x.length : Int) != 0) = true := by simpa using hx
  rw [this]; exact h)
theorem G_cbN {p : Pos} {id : String} {e : Expr} {rest : List Expr}
    (h : G w A fm (spliced (backTo p (starEach (e :: rest) fm.env))) (Call0K w A fm (.builtin id) Q E) E vs cs)
    (he : (e :: rest).all notStar = true) : G w A fm (callWith p (.builtin id) [] (backTo p (starEach (e :: rest) fm.env)) []) Q E vs cs := G_callWith (keeps_plain fun _ q => nomatch q) h he
theorem G_ctN {p : Pos} {id : String} {e : Expr} {rest : List Expr}
    (h : G w A fm (spliced (backTo p (starEach (e :: rest) fm.env))) (Call0K w A fm (.type id) Q E) E vs cs)
    (he : (e :: rest).all notStar = true) : G w A fm (callWith p (.type id) [] (backTo p (starEach (e :: rest) fm.env)) []) Q E vs cs := G_callWith (keeps_plain fun _ q => nomatch q) h he
/-- a def or a class of the top is called -/
theorem G_crN {p : Pos} {f : Value} {e : Expr} {rest : List Expr} (hk : keepIn fm.K f = true)
    (h : G w A fm (spliced (backTo p (starEach (e :: rest) fm.env))) (Call0K w A fm f Q E) E vs cs)
    (he : (e :: rest).all notStar = true) : G w A fm (callWith p f [] (backTo p (starEach (e :: rest) fm.env)) []) Q E vs cs := G_callWith (keeps_top hk) h he
theorem G_crS {p : Pos} {f x : Value} {e : Expr} {rest : List Expr} (hk : keepIn fm.K f = true)
    (h : G w A fm (spliced (backTo p (starEach (e :: rest) fm.env))) (Call1K w A fm f x Q E) E vs cs)
    (he : (e :: rest).all notStar = true) : G w A fm (callWith p f [x] (backTo p (starEach (e :: rest) fm.env)) []) Q E vs cs := G_callWith (keeps_top hk) h he
theorem G_crS0 {p : Pos} {f x : Value} (hk : keepIn fm.K f = true) (h : G w A fm (call f [x]) Q E vs cs) : G w A fm (callWith p f [x] (backTo p (starEach [] fm.env)) []) Q E vs cs := G_callWith0 (keeps_top hk) h
theorem G_crN0 {p : Pos} {f : Value} (hk : keepIn fm.K f = true) (h : G w A fm (call f []) Q E vs cs) : G w A fm (callWith p f [] (backTo p (starEach [] fm.env)) []) Q E vs cs := G_callWith0 (keeps_top hk) h
theorem gateGet {o : Value} {n : Str} {ex : Bool} (h : G w A fm (getAttr o n ex) Q E vs cs) : G w A fm (getAttr o n ex) Q E vs cs := h
theorem gateAsg {x : Str} {p : Pos} {v : Value} {Q : Unit → Vals → List HP → Prop} (h : G w A fm (assign (.Name x p) fm.env v) Q E vs cs) : G w A fm (assign (.Name x p) fm.env v) Q E vs cs := h
theorem gateAs {ns : List Str} {x : Str} {P : Vals → List HP → Prop} {v : Value} {vs₁ : Vals} (h : ASG ns x P v vs₁ cs) : ASG ns x P v vs₁ cs := h
theorem gateName {x : Str} {p : Pos} (h : G w A fm (eval (.Name x p) fm.env) Q E vs cs) : G w A fm (eval (.Name x p) fm.env) Q E vs cs := h
theorem gateSet {o v : Value} {n : Str} {Q : Unit → Vals → List HP → Prop} (h : G w A fm (setAttr o n v) Q E vs cs) : G w A fm (setAttr o n v) Q E vs cs := h
end
end
end
section
open PySem PySem.W PyProof.Rows PySem.Calls
section
noncomputable abbrev ch (c : Nat) : Str := ⟨#[c]⟩
noncomputable abbrev tx (l : List Nat) : Str := ⟨l.toArray⟩
noncomputable def isW (c : Nat) : Bool := c == 97 || c == 98 || c == 99
noncomputable def isQ (c : Nat) : Bool := c == 39 || c == 34
noncomputable def isA (c : Nat) : Bool := isW c || isQ c || c == 32
/-- the tokenizer's steps -/
noncomputable def scan : List Nat → Nat → List Nat → Bool → Option (List Nat × Bool × Option Nat × List Nat)
  | [], st, acc, q => if st == 32 || st == 97 then some (acc, q, none, []) else none
  | c :: r, st, acc, q =>
    if st == 32 then (if isW c then scan r 97 [c] q else if isQ c then scan r c acc q else none)
    else if isQ st then (if c == st then scan r 97 acc true else if isA c then scan r st (acc ++ [c]) true else none)
    else if st == 97 then (if c == 32 then (if !acc.isEmpty || q then some (acc, q, some 32, r) else none) else if isQ c then scan r c acc q else if isW c then scan r 97 (acc ++ [c]) q else none)
    else none
end
section
theorem em_eq : Str.ofString "" = tx [] := by decide +kernel
theorem sp_eq : Str.ofString " " = ch 32 := by decide +kernel
theorem la_eq : Str.ofString "a" = ch 97 := by decide +kernel
theorem lc_eq : Str.ofString "c" = ch 99 := by decide +kernel
theorem ch_beq (a b : Nat) : (ch a == ch b) = (a == b) := by
  by_cases h : a = b
  · subst h; simp
  · have : ch a ≠ ch b := fun q => h (by injection q with q; injection q with q; injection q)
    rw [beq_eq_false_iff_ne.mpr this, beq_eq_false_iff_ne.mpr h]
theorem tx_app (l : List Nat) (c : Nat) : tx l ++ ch c = tx (l ++ [c]) := by
  apply sg_ext
  rw [sg_app]
  show l ++ [c] = l ++ [c]
  rfl
theorem isW_cases {c : Nat} (h : isW c = true) : c = 97 ∨ c = 98 ∨ c = 99 := by
  unfold isW at h
  simp only [Bool.or_eq_true, beq_iff_eq] at h
  rcases h with (h | h) | h
  · exact .inl h
  · exact .inr (.inl h)
  · exact .inr (.inr h)
theorem isQ_cases {c : Nat} (h : isQ c = true) : c = 39 ∨ c = 34 := by
  unfold isQ at h
  simpa only [Bool.or_eq_true, beq_iff_eq] using h
theorem isA_cases {c : Nat} (h : isA c = true) : isW c = true ∨ isQ c = true ∨ c = 32 := by
  unfold isA at h
  simp only [Bool.or_eq_true, beq_iff_eq] at h
  rcases h with (h | h) | h
  · exact .inl h
  · exact .inr (.inl h)
  · exact .inr (.inr h)
theorem scan_A {R : List Nat × Bool × Option Nat × List Nat} {c : Nat} {r : List Nat} {st : Nat} {acc : List Nat} {q : Bool} (h : scan (c :: r) st acc q = some R) : isA c = true := by
  unfold scan at h
  unfold isA
  split at h
  · split at h
    · rename_i h1; rw [h1]; rfl
    · split at h
      · rename_i h1; rw [h1]; simp
      · cases h
  · split at h
    · rename_i hq
      split at h
      · rename_i h1; rw [beq_iff_eq.mp h1, hq]; simp
      · split at h
        · rename_i h1; exact h1
        · cases h
    · split at h
      · split at h
        · rename_i h1; rw [h1]; simp
        · split at h
          · rename_i h1; rw [h1]; simp
          · split at h
            · rename_i h1; rw [h1]; rfl
            · cases h
      · cases h
theorem isA_10 {c : Nat} (h : isA c = true) : c ≠ 10 ∧ c ≠ 92 := by
  rcases isA_cases h with h | h | h
  · rcases isW_cases h with h | h | h <;> subst h <;> decide
  · rcases isQ_cases h with h | h <;> subst h <;> decide
  · subst h; decide
end
section
theorem idx_one {ps n : Nat} (h : ps < n) : Builtin.Str.strSliceIndices (some (ps : Int)) (some ((ps + 1 : Nat) : Int)) 1 n = [ps] := by
  unfold Builtin.Str.strSliceIndices sliceRange
  simp only [show (1 : Int) > 0 by decide, if_true]
  have h1 : max (0 : Int) (min (if (ps : Int) < 0 then (ps : Int) + n else ps) n) = ps := by
    rw [if_neg (by omega)]; omega
  have h2 : max (0 : Int) (min (if ((ps + 1 : Nat) : Int) < 0 then ((ps + 1 : Nat) : Int) + n else ((ps + 1 : Nat) : Int)) n) = ps + 1 := by
    rw [if_neg (by omega)]; omega
  rw [h1, h2, if_pos (by omega)]
  have h3 : (((ps : Int) + 1 - ps + 1 - 1) / 1).toNat = 1 := by
    rw [Int.ediv_one]; omega
  rw [h3]
  show [((ps : Int) + 1 * ((0 : Nat) : Int)).toNat] = [ps]
  congr 1
theorem slice_one {bf : Str} {ps c : Nat} (h : (sg bf)[ps]? = some c) : Txt.slice bf (some (ps : Int)) (some ((ps + 1 : Nat) : Int)) = ch c := by
  have hl : ps < bf.length := by rw [← sg_len]; exact (List.getElem?_eq_some_iff.mp h).1
  unfold Txt.slice
  rw [idx_one hl]
  split
  · rename_i h1
    have h1 : ([ps].length == bf.length) = true := by simpa using h1
    have h2 : bf.length = 1 := (beq_iff_eq.mp h1).symm
    have h0 : ps = 0 := by omega
    subst h0
    apply sg_ext
    have hlen : (sg bf).length = 1 := by rw [sg_len]; exact h2
    show sg bf = [c]
    match hs : sg bf, hlen with
    | [a], _ =>
      rw [hs] at h
      simpa using h
  · apply sg_ext
    show ([ps].filterMap (bf.cps[·]?)) = [c]
    have : bf.cps[ps]? = some c := by rw [← Array.getElem?_toList]; exact h
    simp [this]
end
end
section
open PySem PySem.W PyProof.Rows PySem.Calls
section
noncomputable abbrev sk (w : World) : KeyKind PySem.Challenge.pw_ny0433_01 w Str := strKind PySem.Challenge.pw_ny0433_01 w
/-- a dict with texts as keys -/
noncomputable def DCT (w : World) (d : Addr) (kvs : List (Str × Value)) : HP where
  foot := [d]
  ok h := (d == sysModules) = false ∧ h.DictOf (sk w) d kvs
  loc e := fun ⟨n, o, es, ep, ho, r⟩ => ⟨n, o, es, ep, (e _ (.head _)).trans ho, r⟩
  lt := fun ⟨n, o, es, ep, ho, r⟩ b hb => by cases List.mem_singleton.mp hb; exact ⟨o, ho⟩
theorem is_str (w : World) (x : Str) (t : Tok) : (sk w).is x (.str x t) = true := by show (x == x) = true; simp
section
variable {w : World} {A : Around} {fm : Fm} {vs : Vals} {cs : List HP} {E : Value → Vals → List HP → Prop} {Q : Value → Vals → List HP → Prop}
theorem notSys {s : Shared} (S : Sit fm vs cs s) : (s.heap.objs.size == sysModules) = false := by
  obtain ⟨mc, n, _⟩ := S.top.lim
  have h2 : (2 : Nat) < s.heap.objs.size := n.lt
  exact beq_eq_false_iff_ne.mpr (Nat.ne_of_gt (Nat.lt_of_lt_of_le (by decide) (Nat.le_of_lt h2)))
theorem dctAt {d : Addr} {kvs : List (Str × Value)} (hm : DCT w d kvs ∈ cs) : ∀ s, Sit fm vs cs s → (DCT w d kvs).ok s.heap := fun s S => (S.own _ hm).1
theorem dctTy {d : Addr} {kvs : List (Str × Value)} (hm : DCT w d kvs ∈ cs) : ∀ s, Sit fm vs cs s → s.TypeIs (.ref d) "dict" ∧ ∀ b, Value.ref d = .ref b → ∃ ob, s.heap.get? b = some ob ∧ ob.dict = none := fun s S => by
  have h := (S.own _ hm).1.2
  exact ⟨h.typeIs, h.mapOf.noDict⟩
theorem G_Dict0 {p : Pos} (h : ∀ d, Q (.ref d) vs (DCT w d [] :: cs)) : G w A fm (eval (.Dict [] [] p) fm.env) Q E vs cs := fun s S => by
  rw [eval_Dict_empty]
  refine wpAny_bind (wpAny_standAt ?_)
  unfold newDict
  refine wpAny_newObj_type ?_
  exact ⟨vs, _, S.grow1 (t := s.toks) (c := DCT w s.heap.objs.size []) (fun _ _ e => Heap.get?_push_of_some _ e) ⟨notSys S, Heap.DictOf.new s.heap⟩ (fun b hb => by cases List.mem_singleton.mp hb; exact Nat.le_refl _), h _⟩
theorem G_dget {d : Addr} {kvs : List (Str × Value)} {x : Str} {t : Tok} (hd : ∀ s, Sit fm vs cs s → (DCT w d kvs).ok s.heap) (h : Q ((valueAt kvs x).getD .none) vs cs) : G w A fm (call (.builtin "dict.get") [.ref d, .str x t]) Q E vs cs := fun s S => by
  obtain ⟨h1, h2⟩ := hd s S
  exact call_meetsIn F.slot_dict_get h2.typeIs F.entry_dict_get (F.args_dict_get_2 _ _) (meets_dict_get (sk w) d (is_str w x t) h1) ⟨_, h2.mapOf, vs, cs, S.toks _, h⟩
theorem G_din {d : Addr} {kvs : List (Str × Value)} {x : Str} {t : Tok} (hd : ∀ s, Sit fm vs cs s → (DCT w d kvs).ok s.heap) (h : Q (.bool (valueAt kvs x).isSome) vs cs) : G w A fm (compareOp .In (.str x t) (.ref d)) Q E vs cs := fun s S => by
  obtain ⟨h1, h2⟩ := hd s S
  exact wpAny_in_of (is_str w x t) h1 h2.mapOf ⟨vs, cs, S.toks _, h⟩
theorem G_ditem {d : Addr} {kvs : List (Str × Value)} {x : Str} {t : Tok} {v : Value} {value slice : Expr} (hd : ∀ s, Sit fm vs cs s → (DCT w d kvs).ok s.heap) (hv : valueAt kvs x = some v) (h : Q v vs cs)
    (hs : subscripted slice false (.ref d) (.str x t) = operate [.ref d, .str x t] (getItem (.ref d) (.str x t)) := by with_unfolding_all rfl) : G w A fm (subscriptTail value slice (.ref d) (.str x t)) Q E vs cs := fun s S => by
  obtain ⟨h1, h2⟩ := hd s S
  exact tail_any h2.typeIs slot_dict_getitem.lookup (wpAny_getItem_of (is_str w x t) h2.mapOf hv ⟨vs, cs, S.toks _, h⟩) hs
theorem G_dset {d : Addr} {kvs : List (Str × Value)} {x : Str} {t : Tok} {v : Value} {Q : Unit → Vals → List HP → Prop} (hsz : kvs.length ≤ 1000000) (h : Q () vs (DCT w d (stored kvs x v) :: cs)) : G w A fm (setItem (.ref d) (.str x t) v) Q E vs (DCT w d kvs :: cs) := fun s S => by
  obtain ⟨h1, h2⟩ := (S.own _ (.head _)).1
  refine wpAny_setItem_pairs (is_str w x t) h2 (fun h' hm sb => ⟨vs, _, S.upd (c' := DCT w d (stored kvs x v)) (t := s.toks + 1) (.head _) sb (fun _ q => q) ⟨h1, hm⟩, h⟩) (szl hsz)
end
end
end
section
open PySem PySem.W PyProof.Rows PySem.Calls
section
/-- a node: its key, its addresses, its count, its successors -/
structure Nd where
  key : Str
  tk : Tok
  x : Addr
  dx : Addr
  la : Addr
  np : Int
  tn : Tok
  su : List Value
noncomputable def Nd.foot (n : Nd) : List Addr := [n.x, n.dx, n.la]
noncomputable abbrev Nd.sl (n : Nd) : Array (Option Value) := #[some (.str n.key n.tk), some (.int n.np n.tn), some (.ref n.la)]
noncomputable def Nd.ok (n : Nd) (h : Heap) : Prop := (SLT 70 n.x n.dx n.sl).ok h ∧ (RAW n.la n.su).ok h
theorem Nd.ok.loc {n : Nd} {h h' : Heap} (o : n.ok h) (e : ∀ a ∈ n.foot, h'.get? a = h.get? a) : n.ok h' :=
  ⟨(SLT 70 n.x n.dx n.sl).loc (fun a ha => e a (by
    cases ha with
    | head => exact .head _
    | tail _ ha => cases List.mem_singleton.mp ha; exact .tail _ (.head _))) o.1, (RAW n.la n.su).loc (fun a ha => by cases List.mem_singleton.mp ha; exact e _ (.tail _ (.tail _ (.head _)))) o.2⟩
theorem Nd.ok.lt {n : Nd} {h : Heap} (o : n.ok h) : ∀ a ∈ n.foot, ∃ o, h.get? a = some o := fun a ha => by
  cases ha with
  | head => exact (SLT 70 n.x n.dx n.sl).lt o.1 _ (.head _)
  | tail _ ha =>
    cases ha with
    | head => exact (SLT 70 n.x n.dx n.sl).lt o.1 _ (.tail _ (.head _))
    | tail _ ha => cases List.mem_singleton.mp ha; exact (RAW n.la n.su).lt o.2 _ (.head _)
noncomputable abbrev ndFeet (nds : List Nd) : List Addr := nds.flatMap Nd.foot
theorem mem_ndFeet {nds : List Nd} {n : Nd} (h : n ∈ nds) {a : Addr} (ha : a ∈ n.foot) : a ∈ ndFeet nds := List.mem_flatMap.mpr ⟨n, h, ha⟩
noncomputable def NDS (nds : List Nd) : HP where
  foot := ndFeet nds
  ok h := (ndFeet nds).Nodup ∧ ∀ n ∈ nds, n.ok h
  loc e := fun ⟨nd, o⟩ => ⟨nd, fun n hn => (o n hn).loc fun a ha => e a (mem_ndFeet hn ha)⟩
  lt := fun ⟨nd, o⟩ a ha => by
    obtain ⟨n, hn, hx⟩ := List.mem_flatMap.mp ha
    exact (o n hn).lt a hx
theorem sg_node (w : World) : SlotGet (KT w) 70 "node" 71 0 := ⟨by kernel_rfl!, by kernel_rfl!, by kernel_rfl!, by kernel_rfl!, by kernel_rfl!, by kernel_rfl!⟩
theorem sg_np (w : World) : SlotGet (KT w) 70 "npredecessors" 72 1 := ⟨by kernel_rfl!, by kernel_rfl!, by kernel_rfl!, by kernel_rfl!, by kernel_rfl!, by kernel_rfl!⟩
theorem sg_su (w : World) : SlotGet (KT w) 70 "successors" 73 2 := ⟨by kernel_rfl!, by kernel_rfl!, by kernel_rfl!, by kernel_rfl!, by kernel_rfl!, by kernel_rfl!⟩
theorem so_node (w : World) : SlotOk (KT w) 70 "node" 71 0 := ⟨by kernel_rfl!, by kernel_rfl!, by kernel_rfl!, by kernel_rfl!, by kernel_rfl!, by decide⟩
theorem so_np (w : World) : SlotOk (KT w) 70 "npredecessors" 72 1 := ⟨by kernel_rfl!, by kernel_rfl!, by kernel_rfl!, by kernel_rfl!, by kernel_rfl!, by decide⟩
theorem so_su (w : World) : SlotOk (KT w) 70 "successors" 73 2 := ⟨by kernel_rfl!, by kernel_rfl!, by kernel_rfl!, by kernel_rfl!, by kernel_rfl!, by decide⟩
section
variable {w : World} {A : Around} {fm : Fm} {vs : Vals} {cs : List HP} {E : Value → Vals → List HP → Prop} {Q : Value → Vals → List HP → Prop}
theorem ndAt {nds : List Nd} {n : Nd} (hm : NDS nds ∈ cs) (hn : n ∈ nds) : ∀ s, Sit fm vs cs s → n.ok s.heap := fun s S => (S.own _ hm).1.2 n hn
theorem G_nd0 {nds : List Nd} {n : Nd} {ex : Bool} (hK : fm.K = KT w) (hm : NDS nds ∈ cs) (hn : n ∈ nds) (h : Q (.str n.key n.tk) vs cs) : G w A fm (getAttr (.ref n.x) "node" ex) Q E vs cs :=
  G_getSlot (hK ▸ sg_node w) (fun s S => (ndAt hm hn s S).1) rfl rfl h
theorem G_nd1 {nds : List Nd} {n : Nd} {ex : Bool} (hK : fm.K = KT w) (hm : NDS nds ∈ cs) (hn : n ∈ nds) (h : Q (.int n.np n.tn) vs cs) : G w A fm (getAttr (.ref n.x) "npredecessors" ex) Q E vs cs :=
  G_getSlot (hK ▸ sg_np w) (fun s S => (ndAt hm hn s S).1) rfl rfl h
theorem G_nd2 {nds : List Nd} {n : Nd} {ex : Bool} (hK : fm.K = KT w) (hm : NDS nds ∈ cs) (hn : n ∈ nds) (h : Q (.ref n.la) vs cs) : G w A fm (getAttr (.ref n.x) "successors" ex) Q E vs cs :=
  G_getSlot (hK ▸ sg_su w) (fun s S => (ndAt hm hn s S).1) rfl rfl h
theorem ndFeet_swap {pre post : List Nd} {n n' : Nd} (h : n'.foot = n.foot) : ndFeet (pre ++ n' :: post) = ndFeet (pre ++ n :: post) := by simp [ndFeet, h]
theorem nd_split {pre post : List Nd} {n : Nd} (h : (ndFeet (pre ++ n :: post)).Nodup) : n.foot.Nodup ∧ ∀ m ∈ pre ++ post, ∀ a ∈ n.foot, a ∉ m.foot := by
  rw [ndFeet, List.flatMap_append, List.flatMap_cons] at h
  obtain ⟨h1, h2, h3⟩ := List.nodup_append.mp h
  obtain ⟨h4, h5, h6⟩ := List.nodup_append.mp h2
  refine ⟨h4, fun m hm a ha hb => ?_⟩
  rcases List.mem_append.mp hm with q | q
  · exact h3 a (List.mem_flatMap.mpr ⟨m, q, hb⟩) a (List.mem_append_left _ ha) rfl
  · exact h6 a ha a (List.mem_flatMap.mpr ⟨m, q, hb⟩) rfl
theorem NDS.upd {pre post : List Nd} {n n' : Nd} {h h' : Heap} {a : Addr} (o : (NDS (pre ++ n :: post)).ok h) (hf : n'.foot = n.foot) (ha : a ∈ n.foot) (sb : Heap.SameBut a h h') (ho : n'.ok h') : (NDS (pre ++ n' :: post)).ok h' := by
  obtain ⟨nd, ok⟩ := o
  obtain ⟨d1, d2⟩ := nd_split nd
  refine ⟨by rw [ndFeet_swap hf]; exact nd, fun m hm => ?_⟩
  have other : ∀ m ∈ pre ++ post, m.ok h' := fun m hm => (ok m (by
    rcases List.mem_append.mp hm with q | q
    · exact List.mem_append_left _ q
    · exact List.mem_append_right _ (.tail _ q))).loc fun b hb => sb.2 b fun z => d2 m hm a ha (z ▸ hb)
  rcases List.mem_append.mp hm with q | q
  · exact other m (List.mem_append_left _ q)
  · cases q with
    | head => exact ho
    | tail _ q => exact other m (List.mem_append_right _ q)
theorem G_setNp {pre post : List Nd} {n : Nd} {k : Int} {t : Tok} {Q : Unit → Vals → List HP → Prop} (hK : fm.K = KT w) (h : Q () vs (NDS (pre ++ { n with np := k, tn := t } :: post) :: cs)) : G w A fm (setAttr (.ref n.x) "npredecessors" (.int k t)) Q E vs (NDS (pre ++ n :: post) :: cs) := fun s S => by
  have hall := (S.own _ (.head _)).1
  have ho := hall.2 n (List.mem_append_right _ (.head _))
  obtain ⟨d1, d2⟩ := nd_split hall.1
  have hxla : n.la ≠ n.x := fun q => by
    have : n.x ∉ [n.dx, n.la] := (List.nodup_cons.mp d1).1
    exact this (by rw [← q]; exact .tail _ (.head _))
  obtain ⟨kk, I⟩ := SLT.inst ho.1
  have X := S.top.kin
  have ok : SlotOk fm.K 70 "npredecessors" 72 1 := hK ▸ so_np w
  refine set_plain X I ok.set (osa_descr (s := { s with toks := s.toks + 1 }) KF.slot_mset X I ok.over ok.taker ok.ty (slotPut (s := { s with toks := s.toks + 1 }) X I ok.slot ok.small ?_))
  have sb : Heap.SameBut n.x s.heap (s.heap.update n.x fun o => { o with slots := slotsPut o.slots 1 (.int k t) }) := Heap.SameBut.update ..
  refine ⟨vs, _, S.upd (c' := NDS (pre ++ { n with np := k, tn := t } :: post)) (a := n.x) (t := s.toks + 1) (mem_ndFeet (n := n) (List.mem_append_right _ (.head _)) (.head _)) sb (fun x hx => by
    have : x ∈ ndFeet (pre ++ { n with np := k, tn := t } :: post) := hx
    have e := ndFeet_swap (pre := pre) (post := post) (n := n) (n' := { n with np := k, tn := t }) rfl
    show x ∈ ndFeet (pre ++ n :: post)
    rw [← e]; exact this) (NDS.upd hall (n' := { n with np := k, tn := t }) rfl (.head _) sb ⟨⟨ho.1.1, ?_, ?_⟩, ?_⟩), h⟩
  · exact Heap.get?_update_self _ ho.1.2.1 rfl
  · obtain ⟨z, q⟩ := ho.1.2.2
    exact ⟨z, (Heap.get?_update_other _ _ ho.1.1).trans q⟩
  · exact (RAW n.la n.su).loc (fun a ha => by cases List.mem_singleton.mp ha; exact sb.2 _ hxla) ho.2
theorem G_appSu {pre post : List Nd} {n : Nd} {v : Value} (hsz : n.su.length ≤ sizeLine) (h : Q .none vs (NDS (pre ++ { n with su := n.su ++ [v] } :: post) :: cs)) : G w A fm (call (.builtin "list.append") [.ref n.la, v]) Q E vs (NDS (pre ++ n :: post) :: cs) := fun s S => by
  have hall := (S.own _ (.head _)).1
  have ho := hall.2 n (List.mem_append_right _ (.head _))
  obtain ⟨d1, d2⟩ := nd_split hall.1
  have hx : n.x ≠ n.la := fun q => (List.nodup_cons.mp d1).1 (by rw [q]; exact .tail _ (.head _))
  have hdx : n.dx ≠ n.la := fun q => (List.nodup_cons.mp (List.nodup_cons.mp d1).2).1 (by rw [q]; exact .head _)
  obtain ⟨ob, e, k, rfl⟩ := ho.2
  refine wpAny_list_append_plain (items := n.su.toArray) ⟨k, e⟩ (fun h' il sb => ?_) (by rw [List.size_toArray]; exact hsz)
  obtain ⟨k2, e2⟩ := il
  refine ⟨vs, _, S.upd (c' := NDS (pre ++ { n with su := n.su ++ [v] } :: post)) (a := n.la) (t := s.toks) (mem_ndFeet (n := n) (List.mem_append_right _ (.head _)) (.tail _ (.tail _ (.head _)))) sb (fun x hx => by
    have : x ∈ ndFeet (pre ++ { n with su := n.su ++ [v] } :: post) := hx
    have e := ndFeet_swap (pre := pre) (post := post) (n := n) (n' := { n with su := n.su ++ [v] }) rfl
    show x ∈ ndFeet (pre ++ n :: post)
    rw [← e]; exact this) (NDS.upd hall (n' := { n with su := n.su ++ [v] }) rfl (.tail _ (.tail _ (.head _))) sb ⟨?_, ⟨_, e2, k2, by simp [listO]⟩⟩), h⟩
  refine (SLT 70 n.x n.dx n.sl).loc (fun a ha => ?_) ho.1
  cases ha with
  | head => exact sb.2 _ hx
  | tail _ ha => cases List.mem_singleton.mp ha; exact sb.2 _ hdx
/-- a new node is laid to the others -/
theorem G_ndNew {α : Type} {t : Sem α} {Q : α → Vals → List HP → Prop} {nds : List Nd} (n : Nd) (h : G w A fm t Q E vs (NDS (nds ++ [n]) :: cs)) : G w A fm t Q E vs (SLT 70 n.x n.dx n.sl :: RAW n.la n.su :: NDS nds :: cs) := fun s S => by
  have T : Stp fm.gp (feet [SLT 70 n.x n.dx n.sl, RAW n.la n.su, NDS nds]) fm.fr [NDS (nds ++ [n])] s s := by
    obtain ⟨p1, _, _⟩ := S.own _ (.head _)
    obtain ⟨p2, _, _⟩ := S.own _ (.tail _ (.head _))
    obtain ⟨p3, _, _⟩ := S.own _ (.tail _ (.tail _ (.head _)))
    have ap := List.pairwise_cons.mp S.apart
    have ap2 := List.pairwise_cons.mp ap.2
    have a1 : ∀ a ∈ [n.x, n.dx], a ≠ n.la := fun a ha q => ap.1 _ (.head _) a ha (by rw [q]; exact .head _)
    have a2 : ∀ a ∈ [n.x, n.dx], a ∉ ndFeet nds := fun a ha => ap.1 _ (.tail _ (.head _)) a ha
    have a3 : n.la ∉ ndFeet nds := ap2.1 _ (.head _) n.la (.head _)
    refine ⟨id, rfl, fun _ _ e _ _ => e, fun _ o e _ _ => ⟨o.slots, e⟩, one_mem ⟨⟨?_, fun m hm => ?_⟩, fun x hx => .inl ?_⟩, List.pairwise_singleton _ _⟩
    · rw [ndFeet, List.flatMap_append]
      refine List.nodup_append.mpr ⟨p3.1, ?_, fun a ha b hb q => ?_⟩
      · show ([n.x, n.dx, n.la] ++ []).Nodup
        rw [List.append_nil]
        refine List.nodup_cons.mpr ⟨fun q => ?_, List.nodup_cons.mpr ⟨fun q => a1 n.dx (.tail _ (.head _)) (List.mem_singleton.mp q), nodup1 _⟩⟩
        rcases List.mem_cons.mp q with q | q
        · exact p1.1 q
        · exact a1 n.x (.head _) (List.mem_singleton.mp q)
      · have hb : b ∈ [n.x, n.dx, n.la] ++ [] := hb
        rw [List.append_nil] at hb
        subst q
        cases hb with
        | head => exact a2 _ (.head _) ha
        | tail _ hb =>
          cases hb with
          | head => exact a2 _ (.tail _ (.head _)) ha
          | tail _ hb => cases List.mem_singleton.mp hb; exact a3 ha
    · rcases List.mem_append.mp hm with q | q
      · exact p3.2 m q
      · cases List.mem_singleton.mp q; exact ⟨p1, p2⟩
    · obtain ⟨m, hm, hx⟩ := List.mem_flatMap.mp hx
      rcases List.mem_append.mp hm with q | q
      · exact mem_feet.mpr ⟨_, .tail _ (.tail _ (.head _)), mem_ndFeet q hx⟩
      · cases List.mem_singleton.mp q
        cases hx with
        | head => exact mem_feet.mpr ⟨_, .head _, .head _⟩
        | tail _ hx =>
          cases hx with
          | head => exact mem_feet.mpr ⟨_, .head _, .tail _ (.head _)⟩
          | tail _ hx => cases List.mem_singleton.mp hx; exact mem_feet.mpr ⟨_, .tail _ (.head _), .head _⟩
  exact h s (Sit.call (cs₀ := [_, _, _]) S T)
theorem G_ndNil {α : Type} {t : Sem α} {Q : α → Vals → List HP → Prop} (h : G w A fm t Q E vs (NDS [] :: cs)) : G w A fm t Q E vs cs := fun s S =>
  h s ⟨S.fok, S.gens, S.os, S.ext, S.frs, S.loc, fun c hc => by
    cases hc with
    | head => exact ⟨⟨List.Pairwise.nil, fun _ q => (nomatch q)⟩, fun _ q => (nomatch q), fun q => (nomatch q)⟩
    | tail _ hc => exact S.own c hc, List.pairwise_cons.mpr ⟨fun _ _ _ q => (nomatch q), S.apart⟩⟩
end
end
end
section
open PySem PySem.W PyProof.Rows PySem.Calls
section
/-- a graph: each node's key, count, successors -/
noncomputable abbrev Gr := List (Str × Int × List Str)
noncomputable abbrev keysOf (g : Gr) : List Str := g.map (·.1)
noncomputable def gGet (g : Gr) (k : Str) : Gr := if k ∈ keysOf g then g else g ++ [(k, 0, [])]
noncomputable def mapAt (g : Gr) (k : Str) (f : Int × List Str → Int × List Str) : Gr := g.map fun n => if n.1 = k then (n.1, f n.2) else n
noncomputable def gBump (g : Gr) (k : Str) (d : Int) : Gr := mapAt g k fun n => (n.1 + d, n.2)
noncomputable def gPush (g : Gr) (k v : Str) : Gr := mapAt g k fun n => (n.1, n.2 ++ [v])
noncomputable def gPred (k : Str) (g : Gr) (p : Str) : Gr := gPush (gGet g p) p k
noncomputable def gAdd (g : Gr) (k : Str) (ps : List Str) : Gr := ps.foldl (gPred k) (gBump (gGet g k) k ps.length)
inductive NdsAre : List Nd → Gr → Prop
  | nil : NdsAre [] []
  | cons {n : Nd} {su : List Str} {r : List Nd} {g : Gr} : Strs n.su su → NdsAre r g → NdsAre (n :: r) ((n.key, n.np, su) :: g)
structure GrOk (nds : List Nd) (g : Gr) (N : Nat) : Prop where
  are : NdsAre nds g
  nd : (keysOf g).Nodup
  len : g.length ≤ N
  su : ∀ n ∈ g, n.2.2.length ≤ N
theorem NdsAre.keys {nds : List Nd} {g : Gr} (h : NdsAre nds g) : nds.map (·.key) = keysOf g := by
  induction h with
  | nil => rfl
  | cons _ _ ih => show _ :: _ = _ :: _; rw [ih]
theorem NdsAre.length {nds : List Nd} {g : Gr} (h : NdsAre nds g) : nds.length = g.length := by
  induction h with
  | nil => rfl
  | cons _ _ ih => exact congrArg (· + 1) ih
theorem NdsAre.snoc {nds : List Nd} {g : Gr} (h : NdsAre nds g) {n : Nd} {su : List Str} (hs : Strs n.su su) : NdsAre (nds ++ [n]) (g ++ [(n.key, n.np, su)]) := by
  induction h with
  | nil => exact .cons hs .nil
  | cons h1 _ ih => exact .cons h1 ih
theorem mapAt_keys (g : Gr) (k : Str) (f : Int × List Str → Int × List Str) : keysOf (mapAt g k f) = keysOf g := by
  unfold mapAt keysOf
  rw [List.map_map]
  apply List.map_congr_left
  intro n _
  show (if n.1 = k then (n.1, f n.2) else n).1 = n.1
  split <;> rfl
theorem mapAt_none {g : Gr} {k : Str} {f : Int × List Str → Int × List Str} (h : k ∉ keysOf g) : mapAt g k f = g := by
  unfold mapAt
  conv => rhs; rw [← List.map_id g]
  apply List.map_congr_left
  intro n hn
  have hq : ¬ n.1 = k := fun q => h (by rw [← q]; exact List.mem_map.mpr ⟨n, hn, rfl⟩)
  rw [if_neg hq]; rfl
/-- one node of the heap and its place in the graph -/
theorem NdsAre.at {nds : List Nd} {g : Gr} (h : NdsAre nds g) (hnd : (keysOf g).Nodup) {n : Nd} (hn : n ∈ nds) : ∃ pre post su, nds = pre ++ n :: post ∧ Strs n.su su ∧ (n.key, n.np, su) ∈ g ∧ ∀ n' f, n'.key = n.key → (∃ su', Strs n'.su su' ∧ f (n.np, su) = (n'.np, su')) → NdsAre (pre ++ n' :: post) (mapAt g n.key f) := by
  induction h with
  | nil => cases hn
  | @cons m su r g hs hr ih =>
    have hn' := List.nodup_cons.mp hnd
    have e : ∀ k f, mapAt ((m.key, m.np, su) :: g) k f = (if m.key = k then (m.key, f (m.np, su)) else (m.key, m.np, su)) :: mapAt g k f := fun k f => rfl
    cases hn with
    | head =>
      refine ⟨[], r, su, rfl, hs, .head _, fun n' f hk ⟨su', h1, h2⟩ => ?_⟩
      rw [e, if_pos rfl, mapAt_none hn'.1, h2, ← hk]
      exact .cons h1 hr
    | tail _ hn =>
      obtain ⟨pre, post, su2, h1, h2, h3, h4⟩ := ih hn'.2 hn
      have hne : m.key ≠ n.key := fun q => hn'.1 (by rw [q]; exact List.mem_map.mpr ⟨_, h3, rfl⟩)
      refine ⟨m :: pre, post, su2, by rw [h1]; rfl, h2, .tail _ h3, fun n' f hk hf => ?_⟩
      rw [e, if_neg hne]
      exact .cons hs (h4 n' f hk hf)
theorem mapAt_mem {g : Gr} {k : Str} {f : Int × List Str → Int × List Str} {n : Str × Int × List Str} (h : n ∈ mapAt g k f) : n ∈ g ∨ ∃ m ∈ g, n = (m.1, f m.2) := by
  obtain ⟨m, hm, rfl⟩ := List.mem_map.mp h
  by_cases hk : m.1 = k
  · rw [if_pos hk]; exact .inr ⟨m, hm, rfl⟩
  · rw [if_neg hk]; exact .inl hm
theorem gGet_mem {g : Gr} {k : Str} (h : k ∈ keysOf g) : gGet g k = g := if_pos h
theorem gGet_not {g : Gr} {k : Str} (h : k ∉ keysOf g) : gGet g k = g ++ [(k, 0, [])] := if_neg h
theorem mem_gGet (g : Gr) (k : Str) : k ∈ keysOf (gGet g k) := by
  unfold gGet
  split
  · assumption
  · simp [keysOf]
end
end
section
open PySem PySem.W PyProof.Rows PySem.Calls
section
noncomputable abbrev ksSH : List Str := ["instream", "infile", "posix", "eof", "commenters", "wordchars", "whitespace", "whitespace_split", "quotes", "escape", "escapedquotes", "state", "pushback", "lineno", "debug", "token", "filestack", "source", "_punctuation_chars"]
theorem cok_SH (w : World) : ClsOk (KT w) 859 ksSH := clsOk_of (by kernel_rfl!)
noncomputable abbrev ksTS : List Str := ["_node2info", "_ready_nodes", "_npassedout", "_nfinished"]
theorem cok_TS (w : World) : ClsOk (KT w) 167 ksTS := clsOk_of (by kernel_rfl!)
section
variable {l r : List HP} {x a b c d e f g h i : HP}
theorem pm0 (p : l.Perm r) : (x :: l).Perm (x :: r) := .cons _ p
theorem pm1 (p : l.Perm (a :: r)) : (x :: l).Perm (a :: x :: r) := (List.Perm.cons x p).trans (List.perm_middle (l₁ := [a])).symm
theorem pm2 (p : l.Perm (a :: b :: r)) : (x :: l).Perm (a :: b :: x :: r) := (List.Perm.cons x p).trans (List.perm_middle (l₁ := [a, b])).symm
theorem pm3 (p : l.Perm (a :: b :: c :: r)) : (x :: l).Perm (a :: b :: c :: x :: r) := (List.Perm.cons x p).trans (List.perm_middle (l₁ := [a, b, c])).symm
theorem pm4 (p : l.Perm (a :: b :: c :: d :: r)) : (x :: l).Perm (a :: b :: c :: d :: x :: r) := (List.Perm.cons x p).trans (List.perm_middle (l₁ := [a, b, c, d])).symm
theorem pm5 (p : l.Perm (a :: b :: c :: d :: e :: r)) : (x :: l).Perm (a :: b :: c :: d :: e :: x :: r) := (List.Perm.cons x p).trans (List.perm_middle (l₁ := [a, b, c, d, e])).symm
theorem pm6 (p : l.Perm (a :: b :: c :: d :: e :: f :: r)) : (x :: l).Perm (a :: b :: c :: d :: e :: f :: x :: r) := (List.Perm.cons x p).trans (List.perm_middle (l₁ := [a, b, c, d, e, f])).symm
theorem pm7 (p : l.Perm (a :: b :: c :: d :: e :: f :: g :: r)) : (x :: l).Perm (a :: b :: c :: d :: e :: f :: g :: x :: r) := (List.Perm.cons x p).trans (List.perm_middle (l₁ := [a, b, c, d, e, f, g])).symm
theorem pm8 (p : l.Perm (a :: b :: c :: d :: e :: f :: g :: h :: r)) : (x :: l).Perm (a :: b :: c :: d :: e :: f :: g :: h :: x :: r) := (List.Perm.cons x p).trans (List.perm_middle (l₁ := [a, b, c, d, e, f, g, h])).symm
theorem pm9 (p : l.Perm (a :: b :: c :: d :: e :: f :: g :: h :: i :: r)) : (x :: l).Perm (a :: b :: c :: d :: e :: f :: g :: h :: i :: x :: r) := (List.Perm.cons x p).trans (List.perm_middle (l₁ := [a, b, c, d, e, f, g, h, i])).symm
end
end
end
local macro_rules | `(tactic| cell_end 2 0 0) => `(tactic| with_reducible first | exact Get.here | (apply Get.there; cell_end 2 0 0))
local macro_rules | `(tactic| cell_end 3 0 0) => `(tactic| with_reducible first | exact Put.here | (apply Put.there; cell_end 3 0 0))
local macro_rules | `(tactic| cell_end 4 0 0) => `(tactic| with_reducible first | exact In2.here | (apply In2.there; cell_end 4 0 0))
local macro_rules | `(tactic| cell_end 7 0 0) => `(tactic| with_reducible first | exact mem0 | (refine memS ?_; cell_end 7 0 0))
local macro_rules | `(tactic| cell_end 21 0 0) => `(tactic| ((fail_if_success (fail_if_success (refine gateName ?_))); first | refine G_Name (by cell_end 2 0 0) ?_ | refine G_Glob (by cell_end 4 0 0) ?_ | refine G_Cell (by k_dflt rfl) (by k_dflt rfl) (fun s S => S.cel (by cell_end 7 0 0)) (by k_dflt rfl) ?_))
local macro_rules | `(tactic| cell_end 22 0 0) => `(tactic| ((fail_if_success (fail_if_success (refine gateAs ?_))); refine ASG.mk _ (by cell_end 3 0 0) ?_))
local macro_rules | `(tactic| cell_end 23 0 0) => `(tactic| ((fail_if_success (fail_if_success (refine gateAsg ?_))); refine G_aName (by cell_end 3 0 0) ?_))
local macro_rules | `(tactic| cell_end 24 0 0) => `(tactic| ((fail_if_success (fail_if_success (refine gateGet ?_))); first | refine G_get (cok_TS _) (insAt (by cell_end 7 0 0)) (by cell_end 2 0 0) (by k_dflt rfl) ?_ | refine G_get (cok_SH _) (insAt (by cell_end 7 0 0)) (by cell_end 2 0 0) (by k_dflt rfl) ?_))
local macro_rules | `(tactic| cell_end 25 0 0) => `(tactic| ((fail_if_success (fail_if_success (refine gateSet ?_))); first | refine G_set (cok_TS _) (by cell_end 3 0 0) ?_ | refine G_set (cok_SH _) (by cell_end 3 0 0) ?_))
local macro_rules | `(tactic| cell_end 26 0 0) => `(tactic| refine G_SubSl ?_ (by intro _ _; with_unfolding_all rfl))
local macro_rules | `(tactic| cell_end 1 0 0) => `(tactic| with_reducible first
  | refine G_cons ?_
  | refine bif_t ?_
  | refine bif_f ?_
  | refine bif_nf ?_
  | refine bif_nt ?_
  | refine Thn_next ?_
  | refine Thn_ret ?_
  | refine Thn_brk ?_
  | refine Thn_cont ?_
  | cell_end 21 0 0
  | (refine G_int ?_; intro tk')
  | (refine G_str ?_; intro tk')
  | refine G_bool ?_
  | refine G_none ?_
  | refine G_Assign ?_ (by k_dflt rfl)
  | cell_end 22 0 0
  | refine G_args_nil ?_
  | refine G_args ?_ (by k_dflt rfl)
  | refine G_cb0 ?_
  | refine G_cbN ?_ (by k_dflt rfl)
  | refine G_ctN ?_ (by k_dflt rfl)
  | refine G_cb ?_ (by k_dflt rfl)
  | refine G_CallN ?_
  | refine G_tCmp ?_ (by k_dflt rfl)
  | refine G_Cmp ?_ (by k_dflt rfl)
  | refine G_BinOp ?_
  | cell_end 26 0 0
  | refine G_Sub ?_
  | refine G_part0 ?_
  | refine G_part1 ?_
  | refine G_UnOp ?_
  | refine G_ct ?_ (by k_dflt rfl)
  | cell_end 24 0 0
  | cell_end 25 0 0
  | refine G_ct0 ?_
  | refine G_isNN ?_
  | refine G_isSN ?_
  | refine G_isRN ?_
  | refine G_isNotNN ?_
  | refine G_isNotSN ?_
  | refine G_isNotRN ?_
  | refine G_isiS ?_
  | refine G_Attr ?_ (by k_dflt rfl)
  | refine G_AssignA ?_ (by k_dflt rfl)
  | refine G_AugA ?_
  | refine G_tests0 ?_
  | refine G_tests1 ?_
  | cell_end 23 0 0
  | refine G_List ?_
  | refine G_Tuple ?_
  | refine G_If ?_
  | refine G_Return ?_
  | refine G_Expr ?_ (by k_dflt rfl)
  | refine G_tNot ?_
  | refine G_tBool ?_
  | refine G_and_nil ?_
  | refine G_or_nil ?_
  | refine G_and ?_
  | refine G_or ?_
  | refine G_truthy_bool ?_
  | refine G_test ?_ (by k_dflt rfl)
  | refine G_execs_nil ?_
  | refine G_Pass ?_
  | refine G_Break ?_
  | refine G_Continue ?_)
local macro_rules | `(tactic| cell_end 5 0 0) => `(tactic| repeat cell_end 1 0 0)
local macro_rules | `(tactic| cell_end 6 0 0) => `(tactic| with_reducible first
  | refine G_m2 F.slot_str_split F.type_str_split F.plainAttrs_str ?_ (by k_dflt rfl) (by k_dflt rfl) (by k_dflt rfl) (by k_dflt rfl)
  | refine G_m1 F.slot_list_append F.type_list_append F.plainAttrs_list ?_ (by k_dflt rfl) (by k_dflt rfl) (by k_dflt rfl)
  | refine G_m1 F.slot_str_join F.type_str_join F.plainAttrs_str ?_ (by k_dflt rfl) (by k_dflt rfl) (by k_dflt rfl))
local macro_rules | `(tactic| cell_end 9 0 0) => `(tactic| ((try simp only [List.cons_append, List.nil_append]); with_reducible repeat first | exact .refl _ | refine pm0 ?_ | refine pm1 ?_ | refine pm2 ?_ | refine pm3 ?_ | refine pm4 ?_ | refine pm5 ?_ | refine pm6 ?_ | refine pm7 ?_ | refine pm8 ?_ | refine pm9 ?_))
section
open PySem PySem.W PyProof.Rows PySem.Calls
section
noncomputable def rowD (r : List Str) : PyData := .list (r.map .str)
noncomputable def rowsD (rows : List (List Str)) : PyData := .list (rows.map rowD)
noncomputable abbrev ns_line : List Str := ["rows", "written", "row"]
noncomputable abbrev gs_line : List (Str × Value) := [("len", .builtin "len")]
theorem ok_line (w : World) : FnOk (KT w) 898 fd_line ns_line gs_line := fnOk_of (at_line w) (by kernel_rfl!)
noncomputable def wr (row : List Str) : Str := if (decide ((row.length : Int) = 1) && (["a", "b", "c"] : List Str).any (· == row.headD "")) = true then row.headD "" else "'" ++ Txt.join "'\"'\"'" row ++ "'"
noncomputable def lineOf (rows : List (List Str)) : Str := Txt.join " " (rows.map wr)
structure Small (rows : List (List Str)) : Prop where
  n : rows.length ≤ 64
  r : ∀ r ∈ rows, r.length ≤ 64 ∧ ∀ x ∈ r, x.length ≤ 64
theorem row_le {row : List Str} (h : row.length ≤ 64 ∧ ∀ x ∈ row, x.length ≤ 64) : (Txt.join "'\"'\"'" row).length ≤ 4416 := by
  refine Nat.le_trans (join_le h.2) ?_
  show row.length * 64 + row.length * 5 ≤ 4416
  omega
theorem wr_le {row : List Str} (h : row.length ≤ 64 ∧ ∀ x ∈ row, x.length ≤ 64) : (wr row).length ≤ 5000 := by
  unfold wr
  split
  · cases row with
    | nil => exact Nat.zero_le _
    | cons x r => exact Nat.le_trans (h.2 x (.head _)) (by decide)
  · rw [Str.length_append, Str.length_append]
    exact Nat.le_trans (Nat.add_le_add_right (Nat.add_le_add_left (row_le h) _) _) (by decide)
/-- the heap at hand bears what the start bears -/
theorem base_list {fm : Fm} (hF : fm.F = []) {a : Addr} {xs : List Value} {n : Nat} (e : fm.b.heap.get? a = some (listO xs n)) {vs : Vals} {cs : List HP} : ∀ s, Sit fm vs cs s → s.heap.IsList a xs.toArray := fun s S =>
  isList_of ⟨n, S.keep e (by rw [hF]; exact fun q => nomatch q) (fun _ _ q => nomatch q)⟩
theorem sp_line (w : World) (a : Addr) (rows : List (List Str)) (sm : Small rows) : Spec w (KT w) 1 (.ref 898) ⟨[.ref a], []⟩ (fun h => ∃ F, Rx h F (.ref a) (rowsD rows)) [] (fun v cs => cs = [] ∧ ∃ t, v = .str (lineOf rows) t) := by
  refine Spec.of_body (ok_line w) (by decide +kernel) rfl (binds := [("rows", .ref a)]) (fun s _ _ => BindsTo.of_eq (by kernel_rfl!)) (locs (by kernel_rfl!)) (vs₀ := [some (.ref a), none, none]) ⟨rfl, trivial⟩ ?_
  intro gp A b hA T hB
  obtain ⟨Fo, hB⟩ := hB
  unfold rowsD at hB
  cases hB with | @list _ xs n _ Fo e r => ?_
  refine letG ?_
  intro fm Q0
  refine G_cons ?_
  cell_end 5 0 0
  refine G_newList (fun _ => .nil) (by decide) ?_
  intro wa
  cell_end 5 0 0
  refine G_ForL hA.handled ?_
  cell_end 5 0 0
  refine ⟨a, xs, fun i vs cs => E2 fun ro ys => vs = [some (.ref a), some (.ref wa), ro] ∧ cs = [LSX wa ys ((rows.take i).map fun r => .str (wr r)) []], rfl, ⟨none, [], rfl, rfl⟩, fun i vs cs s _ S => base_list rfl e s S, ?_, ?_⟩
  · rintro i v vs cs X hv ⟨ro, ys, rfl, rfl⟩
    obtain ⟨d, H, hd, rv, _⟩ := r.get hv
    rw [List.getElem?_map, Option.map_eq_some_iff] at hd
    obtain ⟨row, hrow, rfl⟩ := hd
    have hsm := sm.r row (List.mem_of_getElem? hrow)
    unfold rowD at rv
    cases rv with | @list ra rs rn _ _ re rr => ?_
    obtain ⟨hs, _⟩ := Strs.of_rx rr row rfl
    have il : ∀ {vs : Vals} {cs : List HP}, ∀ s, Sit ⟨KT w, feet [], b, callEnv fd_line b.heap.objs.size 898, ns_line, gs_line, gp, frOf A⟩ vs cs s → s.heap.IsList ra rs.toArray := base_list rfl re
    have hlen := hs.length
    have hi : i < rows.length := (List.getElem?_eq_some_iff.mp hrow).1
    have htk : rows.take (i + 1) = rows.take i ++ [row] := by rw [List.take_add_one, hrow]; rfl
    have hz : (List.map (fun r => PyData.str (wr r)) (List.take i rows)).length ≤ sizeLine := by
      rw [List.length_map, List.length_take]; have := sm.n; have : sizeLine = 16777216 := by decide
      omega
    refine G_aName Put.here.there.there ?_
    cell_end 1 0 0
    cell_end 1 0 0
    refine G.mono (E := NoE) (Q := fun c vs' cs' => c = (decide ((row.length : Int) = 1) && (["a", "b", "c"] : List Str).any (· == row.headD "")) ∧ vs' = [some (.ref a), some (.ref wa), some (.ref ra)] ∧ cs' = [LSX wa ys ((rows.take i).map fun r => .str (wr r)) [], X]) ?_ ?_ (fun _ _ _ q => q)
    · cell_end 5 0 0
      refine G_len il (by rw [hlen]; omega) ?_
      intro _
      cell_end 5 0 0
      refine G_eqI ?_
      cell_end 5 0 0
      have key : ((rs.length : Int) == 1) = decide ((row.length : Int) = 1) := by rw [hlen]; rfl
      rw [key]
      refine bif_s (fun h1 => ?_) (fun h1 => ?_)
      · cell_end 5 0 0
        have l1 : row.length = 1 := by have := of_decide_eq_true h1; omega
        obtain ⟨x, rfl⟩ : ∃ x, row = [x] := by
          cases row with
          | nil => cases l1
          | cons x r => cases r with
            | nil => exact ⟨x, rfl⟩
            | cons => simp at l1
        obtain ⟨tx, hx⟩ := hs.getD (i := 0) rfl
        refine G_item il (by decide) (by decide) hx ?_ (by with_unfolding_all rfl)
        cell_end 5 0 0
        refine G_newList (fun _ => Strs.rx (.cons (.cons (.cons .nil)))) (szl (Nat.le_of_ble_eq_true rfl)) ?_
        intro la
        refine G_inL (fun s S => isList_of (S.lsx (.head _))) (.cons (.cons (.cons .nil))) ?_
        refine G_drop ?_
        cell_end 1 0 0
        refine bif_s (fun h2 => ?_) (fun h2 => ?_)
        · cell_end 5 0 0
          exact ⟨by rw [h1]; exact h2.symm, rfl, rfl⟩
        · exact ⟨by rw [h1]; exact h2.symm, rfl, rfl⟩
      · exact ⟨by rw [h1]; rfl, rfl, rfl⟩
    · rintro c _ _ ⟨rfl, rfl, rfl⟩
      refine bif_s (fun h1 => ?_) (fun h1 => ?_)
      · have hw : wr row = row.headD "" := if_pos h1
        have hx0 : row[0]? = some (row.headD "") := by
          cases row with
          | nil => simp at h1
          | cons x r => rfl
        obtain ⟨tx, hx⟩ := hs.getD hx0
        cell_end 5 0 0
        cell_end 6 0 0
        cell_end 1 0 0
        refine ⟨LSX.ty (.head _), ?_⟩
        cell_end 5 0 0
        refine G_item il (by decide) (by decide) hx ?_ (by with_unfolding_all rfl)
        refine G_append (fun _ => .str _ _) hz ?_
        refine ⟨fun _ q => (nomatch q), ?_⟩
        cell_end 5 0 0
        exact Turn.n1 ⟨_, _, rfl, by rw [htk, List.map_append, ← hw]; rfl⟩
      · have hw : wr row = "'" ++ Txt.join "'\"'\"'" row ++ "'" := if_neg (by rw [h1]; decide)
        cell_end 5 0 0
        cell_end 6 0 0
        cell_end 1 0 0
        refine ⟨LSX.ty (.head _), ?_⟩
        cell_end 5 0 0
        cell_end 6 0 0
        cell_end 1 0 0
        refine ⟨str_ty, ?_⟩
        cell_end 5 0 0
        have hj := row_le hsm
        refine G_join il hs (join_fit hsm.2 hsm.1 (by decide)) ?_
        intro _
        refine G_addStr (Nat.le_trans (Nat.add_le_add_left hj _) (by decide)) ?_
        intro _
        cell_end 5 0 0
        refine G_addStr (by rw [Str.length_append]; exact Nat.le_trans (Nat.add_le_add_right (Nat.add_le_add_left hj _) _) (by decide)) ?_
        intro _
        refine G_append (fun _ => .str _ _) hz ?_
        refine ⟨fun _ q => (nomatch q), ?_⟩
        cell_end 5 0 0
        exact Turn.n1 ⟨_, _, rfl, by rw [htk, List.map_append, ← hw]; rfl⟩
  · rintro vs cs ⟨ro, ys, rfl, rfl⟩
    cell_end 5 0 0
    refine G_know (P := Strs ys (rows.map wr)) (fun s S => ?_) fun hys => ?_
    · have z : (LSX wa ys (List.map (fun r => PyData.str (wr r)) (List.take xs.length rows)) []).ok s.heap := (S.own _ (.head _)).1
      have e2 : List.map (fun r => PyData.str (wr r)) (List.take xs.length rows) = List.map PyData.str (rows.map wr) := by rw [r.length, List.length_map, List.take_length, List.map_map]; rfl
      exact (Strs.of_rx z.2.2 (rows.map wr) e2).1
    cell_end 6 0 0
    cell_end 1 0 0
    refine ⟨str_ty, ?_⟩
    cell_end 5 0 0
    refine G_join (fun s S => isList_of (S.lsx (.head _))) hys (join_fit (B := 5000) (n := 64) (fun y hy => ?_) (by rw [List.length_map]; exact sm.n) (by decide)) ?_
    · obtain ⟨r, hr, rfl⟩ := List.mem_map.mp hy
      exact wr_le (sm.r r hr)
    intro t
    cell_end 5 0 0
    exact Out.nil ⟨rfl, t, rfl⟩
end
end
section
open PySem PySem.W PyProof.Rows PySem.Calls
section
noncomputable abbrev ns_dec : List Str := ["s", "parts"]
noncomputable abbrev gs_dec : List (Str × Value) := [("TICK", .str "'" 333), ("len", .builtin "len")]
theorem ok_dec (w : World) : FnOk (KT w) 51 fd_dec ns_dec gs_dec := fnOk_of (at_dec w) (by kernel_rfl!)
noncomputable def cut3 (x : Str) : List Str := Txt.splitMax x "'" 2
noncomputable def decD (x : Str) : PyData := if (decide (((cut3 x).length : Int) ≤ 2)) = true then .tuple [.none, .none, .str x] else .list ((cut3 x).map .str)
theorem cut3_le {x : Str} : (cut3 x).length ≤ x.length + 2 := by
  unfold cut3 Txt.splitMax
  split
  · simp
  · split
    · simp
    · rw [length_partsBetween]
      have := StrLaws.occ_length_le_len x "'" 0 x.length (limitOf x 2)
      omega
theorem sp_dec (w : World) (x : Str) (t : Tok) (hx : x.length ≤ 100000) : Spec w (KT w) 1 (.ref 51) ⟨[.str x t], []⟩ (fun _ => True) [] (fun v cs => ∃ F, cs = [DAT v (decD x) F]) := by
  refine Spec.of_body (ok_dec w) (by decide +kernel) rfl (binds := [("s", .str x t)]) (fun s _ _ => BindsTo.of_eq (by kernel_rfl!)) (locs (by kernel_rfl!)) (vs₀ := [some (.str x t), none]) ⟨rfl, trivial⟩ ?_
  intro gp A b hA T hB
  refine letG ?_
  intro fm Q0
  refine G_cons ?_
  cell_end 5 0 0
  cell_end 6 0 0
  cell_end 1 0 0
  refine ⟨str_ty, ?_⟩
  cell_end 5 0 0
  refine G_split (by decide) (by decide) (Nat.le_trans (Nat.add_le_add_right hx 2) (by decide)) ?_
  intro a ys hys
  have hlen := hys.length
  have hle := cut3_le (x := x)
  cell_end 5 0 0
  refine G_len (fun s S => isList_of (S.lsx (.head _))) (by rw [hlen]; show ((cut3 x).length : Int) < _; omega) ?_
  intro _
  cell_end 5 0 0
  refine G_leI ?_
  rw [hlen]
  cell_end 5 0 0
  refine bif_s (fun h1 => ?_) (fun h1 => ?_)
  · cell_end 5 0 0
    refine G_newTuple (fun _ => .cons (F := []) .none (.cons (F := []) .none (.cons (F := []) (.str _ _) .nil))) (szl (Nat.le_of_ble_eq_true rfl)) ?_
    intro ta
    cell_end 5 0 0
    refine Out.front (cs₁ := [_]) ⟨[ta], ?_⟩
    rw [decD, cut3, if_pos h1]
  · refine G_execs_nil (Thn_next ?_)
    refine G_shut ?_
    cell_end 5 0 0
    refine Out.all ⟨[a], ?_⟩
    rw [decD, cut3, if_neg (by rw [h1]; decide)]
end
end
section
open PySem PySem.W PyProof.Rows PySem.Calls
section
noncomputable def pairsOf : List Str → List (Str × Str)
  | a :: b :: c :: r => (a, b) :: pairsOf (c :: r)
  | _ => []
noncomputable def restOf : List Str → List Str
  | _ :: _ :: c :: r => restOf (c :: r)
  | l => l
noncomputable def pairD (p : Str × Str) : PyData := .tuple [.str p.1, .str p.2]
noncomputable def tailD (row : List Str) : PyData := .tuple [.none, .none, .str (Txt.join "'" (restOf row))]
noncomputable def dueD (row : List Str) : PyData := .tuple [.list ((pairsOf row).map pairD), tailD row]
noncomputable def tickFree (x : Str) : Prop := 39 ∉ sg x
theorem tick_eq : ("'" : Str) = ⟨#[39]⟩ := by decide +kernel
theorem cut3_many {a b c : Str} {r : List Str} (ha : tickFree a) (hb : tickFree b) : cut3 (Txt.join "'" (a :: b :: c :: r)) = [a, b, Txt.join "'" (c :: r)] := by
  have e : sg (Txt.join "'" (a :: b :: c :: r)) = sg a ++ (39 :: (sg b ++ (39 :: sg (Txt.join "'" (c :: r))))) := by
    rw [sg_join, sg_join, tick_eq]
    show sg a ++ [39] ++ (sg b ++ [39] ++ jn [39] ((c :: r).map sg)) = _
    simp; rfl
  show Txt.splitMax _ _ ((2 : Nat) : Int) = _
  rw [tick_eq] at e ⊢
  rw [cut_two (by decide) e ha hb]
  congr 3
theorem cut3_one {a : Str} (ha : tickFree a) : (cut3 (Txt.join "'" [a])).length ≤ 2 := by
  show (Txt.splitMax _ _ ((2 : Nat) : Int)).length ≤ 2
  rw [tick_eq]
  exact cut_few (c := 39) (o := []) (by decide) ha (by simp) (.inl rfl)
theorem cut3_two {a b : Str} (ha : tickFree a) (hb : tickFree b) : (cut3 (Txt.join "'" [a, b])).length ≤ 2 := by
  show (Txt.splitMax _ _ ((2 : Nat) : Int)).length ≤ 2
  have e : sg (Txt.join "'" [a, b]) = sg a ++ 39 :: sg b := by
    rw [sg_join, tick_eq]
    show sg a ++ [39] ++ sg b = _
    simp
  rw [tick_eq] at e ⊢
  exact cut_few (c := 39) (by decide) ha hb (.inr e)
theorem cut3_nil : (cut3 (Txt.join "'" [])).length ≤ 2 := by decide +kernel
structure RowOk (row : List Str) : Prop where
  len : row.length ≤ 64
  short : ∀ x ∈ row, x.length ≤ 64
  free : ∀ x ∈ row, tickFree x
  fine : ∀ x ∈ row, PyData.strOk x = true
theorem RowOk.tail {a : Str} {r : List Str} (h : RowOk (a :: r)) : RowOk r := ⟨Nat.le_trans (Nat.le_succ _) h.len, fun x hx => h.short x (.tail _ hx), fun x hx => h.free x (.tail _ hx), fun x hx => h.fine x (.tail _ hx)⟩
theorem RowOk.join {row : List Str} (h : RowOk row) : (Txt.join "'" row).length ≤ 100000 := by
  refine Nat.le_trans (join_le h.short) ?_
  have := h.len
  show row.length * 64 + row.length * 1 ≤ 100000
  omega
theorem decD_few {row : List Str} (h : RowOk row) (hl : row.length ≤ 2) : decD (Txt.join "'" row) = tailD row ∧ pairsOf row = [] := by
  have fin : (cut3 (Txt.join "'" row)).length ≤ 2 → decD (Txt.join "'" row) = .tuple [.none, .none, .str (Txt.join "'" row)] := fun key => by
    unfold decD
    rw [if_pos (by simp; omega)]
  rcases row with _ | ⟨a, _ | ⟨b, _ | ⟨c, r⟩⟩⟩
  · exact ⟨fin cut3_nil, rfl⟩
  · exact ⟨fin (cut3_one (h.free a (.head _))), rfl⟩
  · exact ⟨fin (cut3_two (h.free a (.head _)) (h.free b (.tail _ (.head _)))), rfl⟩
  · exact absurd hl (by simp only [List.length_cons]; omega)
theorem decD_many {a b c : Str} {r : List Str} (h : RowOk (a :: b :: c :: r)) : decD (Txt.join "'" (a :: b :: c :: r)) = .list [.str a, .str b, .str (Txt.join "'" (c :: r))] := by
  unfold decD
  rw [cut3_many (h.free a (.head _)) (h.free b (.tail _ (.head _)))]
  rfl
noncomputable abbrev ns_read : List Str := ["text", "pairs", "told"]
noncomputable abbrev gs_read : List (Str × Value) := [("decode_rfc2231", .ref 51), ("isinstance", .builtin "isinstance"), ("list", .type "list")]
theorem ok_read (w : World) : FnOk (KT w) 905 fd_read ns_read gs_read := fnOk_of (at_read w) (by kernel_rfl!)
theorem pairs_len : ∀ row : List Str, (pairsOf row).length ≤ row.length
  | a :: b :: c :: r => by have := pairs_len (c :: r); show (pairsOf (c :: r)).length + 1 ≤ r.length + 1 + 1 + 1; simp at this; omega
  | [] => Nat.le_refl _
  | [_] => Nat.zero_le _
  | [_, _] => Nat.zero_le _
theorem sp_read (w : World) (row : List Str) (t : Tok) (hr : RowOk row) : Spec w (KT w) 2 (.ref 905) ⟨[.str (Txt.join "'" row) t], []⟩ (fun _ => True) [] (fun v cs => ∃ F, cs = [DAT v (dueD row) F]) := by
  refine Spec.of_body (ok_read w) (by decide +kernel) rfl (binds := [("text", .str (Txt.join "'" row) t)]) (fun s _ _ => BindsTo.of_eq (by kernel_rfl!)) (locs (by kernel_rfl!)) (vs₀ := [some (.str (Txt.join "'" row) t), none, none]) ⟨rfl, trivial⟩ ?_
  intro gp A b hA T hB
  refine letG ?_
  intro fm Q0
  refine G_cons ?_
  cell_end 5 0 0
  refine G_newList (fun _ => .nil) (by decide) ?_
  intro pa
  cell_end 5 0 0
  refine G_callWith (keeps_top (by kernel_rfl!)) ?_ (by k_dflt rfl)
  cell_end 5 0 0
  refine G_spec (cs₀ := []) (sp_dec w _ _ hr.join) hA (fun _ _ => trivial) ?_
  rintro v _ ⟨F, rfl⟩
  cell_end 5 0 0
  let J21 : Nat → Vals → List HP → Prop := fun n vs cs => E6 fun done rest v F xs H => A6 (n = rest.length) (RowOk rest) (done ++ pairsOf rest = pairsOf row) (tailD rest = tailD row) (vs = [some (.str (Txt.join "'" row) t), some (.ref pa), some v]) (cs = [DAT v (decD (Txt.join "'" rest)) F, LSX pa xs (done.map pairD) H])
  refine G_While J21 (n := row.length) ⟨[], row, v, F, [], [], rfl, hr, rfl, rfl, rfl, rfl⟩ ?_
  rintro n vs cs ⟨done, rest, v, F, xs, H, rfl, hrest, hp, ht, rfl, rfl⟩
  have hlen : done.length ≤ 64 := by have := congrArg List.length hp; rw [List.length_append] at this; have := pairs_len row; have := hr.len; omega
  have hsz : (done.map pairD).length ≤ sizeLine := by rw [List.length_map]; exact Nat.le_trans hlen (by decide)
  by_cases hl : rest.length ≤ 2
  · obtain ⟨e1, e2⟩ := decD_few hrest hl
    rw [e1, ht]
    rw [e2, List.append_nil] at hp
    subst hp
    cell_end 5 0 0
    refine G_know (fun s S => show ∃ a, v = .ref a from by
      obtain ⟨_, r⟩ := (S.own _ (.head _)).1
      unfold tailD at r
      cases r; exact ⟨_, rfl⟩) ?_
    rintro ⟨ta, rfl⟩
    refine G_isiT (fun s S => ?_) ?_
    · obtain ⟨_, r⟩ := (S.own _ (.head _)).1
      unfold tailD at r
      cases r with | tuple e _ => exact ⟨_, e, rfl⟩
    cell_end 5 0 0
    refine G_perm (.swap _ _ _) ?_
    refine G_shut ?_
    refine G_newTupD (cn := [_, _]) (cs := []) (Bears.dat (Bears.dat Bears.nil)) (szl (Nat.le_of_ble_eq_true rfl)) ?_
    intro ra
    cell_end 5 0 0
    exact Out.all ⟨_, rfl⟩
  · match rest, hl with
    | a :: b :: c :: r, _ =>
      rw [decD_many hrest]
      refine G_open ?_
      rintro ta ts H2 rfl rfl
      refine G_know (fun s S => show (E3 fun t0 t1 t2 => ts = [.str a t0, .str b t1, .str (Txt.join "'" (c :: r)) t2] ∧ H2 = []) from by
        obtain ⟨_, _, rr⟩ := (S.own _ (.head _)).1
        obtain ⟨q, q'⟩ := Strs.of_rx rr [a, b, Txt.join "'" (c :: r)] rfl
        cases q with | cons q => cases q with | cons q => cases q with | cons q => cases q; exact ⟨_, _, _, rfl, q'⟩) ?_
      rintro ⟨t0, t1, t2, rfl, rfl⟩
      cell_end 5 0 0
      refine G_isiL (fun s S => let ⟨n, e⟩ := S.lsx (.head _); ⟨_, e, rfl⟩) ?_
      cell_end 5 0 0
      cell_end 6 0 0
      cell_end 1 0 0
      refine ⟨LSX.ty (.tail _ (.head _)), ?_⟩
      cell_end 5 0 0
      refine G_item (fun s S => isList_of (S.lsx (.head _))) (by decide) (by decide) rfl ?_
      cell_end 5 0 0
      refine G_item (fun s S => isList_of (S.lsx (.head _))) (by decide) (by decide) rfl ?_
      cell_end 5 0 0
      refine G_newTuple (fun _ => .cons (F := []) (.str _ _) (.cons (F := []) (.str _ _) .nil)) (szl (Nat.le_of_ble_eq_true rfl)) ?_
      intro ua
      refine G_p2 ?_
      refine G_append_own hsz ?_
      refine ⟨fun _ q => (nomatch q), ?_⟩
      cell_end 5 0 0
      refine G_callWith (keeps_top (by kernel_rfl!)) ?_ (by k_dflt rfl)
      cell_end 5 0 0
      refine G_item (fun s S => isList_of (S.lsx (.tail _ (.head _)))) (by decide) (by decide) rfl ?_
      cell_end 5 0 0
      refine G_sub (cs' := [_]) (.cons_cons _ (.cons _ .slnil)) ?_
      refine G_spec (cs₀ := []) (sp_dec w _ _ hrest.tail.tail.join) hA (fun _ _ => trivial) ?_
      rintro v2 _ ⟨F2, rfl⟩
      cell_end 5 0 0
      refine ⟨r.length + 1, by simp, done ++ [(a, b)], c :: r, v2, F2, xs ++ [.ref ua], H ++ [ua], rfl, hrest.tail.tail, ?_, ht, rfl, ?_⟩
      · rw [List.append_assoc]; exact hp
      · rw [List.map_append]; rfl
    | [], h => exact absurd (Nat.zero_le _) h
    | [_], h => exact absurd (by simp) h
    | [_, _], h => exact absurd (by simp) h
end
end
section
open PySem PySem.W PyProof.Rows PySem.Calls
section
theorem pairs_count : ∀ row : List Str, (pairsOf row).length = (row.length - 1) / 2
  | a :: b :: c :: r => by have := pairs_count (c :: r); show (pairsOf (c :: r)).length + 1 = _; rw [this]; simp
  | [] => rfl
  | [_] => by simp [pairsOf]
  | [_, _] => by simp [pairsOf]
theorem pairs_get : ∀ (row : List Str) (i : Nat), i < (pairsOf row).length → E2 fun x y => A3 (row[2 * i]? = some x) (row[2 * i + 1]? = some y) ((pairsOf row)[i]? = some (x, y))
  | a :: b :: c :: r, 0, _ => ⟨a, b, rfl, rfl, rfl⟩
  | a :: b :: c :: r, i + 1, h => by
    obtain ⟨x, y, h1, h2, h3⟩ := pairs_get (c :: r) i (by simpa [pairsOf] using h)
    exact ⟨x, y, h1, h2, h3⟩
  | [], _, h => absurd h (Nat.not_lt_zero _)
  | [_], _, h => absurd h (Nat.not_lt_zero _)
  | [_, _], _, h => absurd h (Nat.not_lt_zero _)
theorem rest_drop : ∀ row : List Str, restOf row = row.drop (2 * (pairsOf row).length)
  | a :: b :: c :: r => by
    show restOf (c :: r) = (a :: b :: c :: r).drop (2 * ((pairsOf (c :: r)).length + 1))
    rw [rest_drop (c :: r), Nat.mul_add]; rfl
  | [] => rfl
  | [_] => rfl
  | [_, _] => rfl
theorem due_range {row : List Str} (h : row.length ≤ 64) : (Builtin.Range.rangeSize 0 ((row.length : Int) - 2) 2).toNat = (pairsOf row).length := by
  rw [pairs_count]
  have q : ∀ k : Fin 65, (Builtin.Range.rangeSize 0 ((k.val : Int) - 2) 2).toNat = (k.val - 1) / 2 := by decide +kernel
  exact q ⟨row.length, Nat.lt_succ_of_le h⟩
theorem small_two {n : Nat} (h : n ≤ 64) : Builtin.Range.small 0 ((n : Int) - 2) 2 = true := by
  have q : ∀ k : Fin 65, Builtin.Range.small 0 ((k.val : Int) - 2) 2 = true := by decide +kernel
  exact q ⟨n, Nat.lt_succ_of_le h⟩
theorem Strs.drop {vs : List Value} {xs : List Str} (s : Strs vs xs) : ∀ k, Strs (vs.drop k) (xs.drop k) := by
  induction s with
  | nil => intro k; simp; exact .nil
  | cons s ih => intro k; cases k with | zero => exact .cons s | succ k => exact ih k
theorem Strs.take {vs : List Value} {xs : List Str} (s : Strs vs xs) : ∀ k, Strs (vs.take k) (xs.take k) := by
  induction s with
  | nil => intro k; simp; exact .nil
  | cons s ih => intro k; cases k with | zero => exact .nil | succ k => exact .cons (ih k)
noncomputable abbrev ns_due : List Str := ["pairs"]
noncomputable abbrev gs_due : List (Str × Value) := [("range", .type "range"), ("len", .builtin "len")]
theorem ok_due (w : World) : FnOk (KT w) 910 fd_due ns_due gs_due := fnOk_of (at_due w) (by kernel_rfl!)
theorem sp_due (w : World) (a : Addr) (row : List Str) (hr : RowOk row) : Spec w (KT w) 1 (.ref 910) ⟨[.ref a], []⟩ (fun h => ∃ F, Rx h F (.ref a) (rowD row)) [] (fun v cs => ∃ F, cs = [DAT v (dueD row) F]) := by
  refine Spec.of_bodyC (ok_due w) rfl (binds := [("row", .ref a)]) (by kernel_rfl!) rfl (cells := fun L => [("row", L)]) (fun L => by kernel_rfl!) (fun L p hp => by cases List.mem_singleton.mp hp; simp) (fun x hx => by cases List.mem_singleton.mp hx; exact .inr ⟨by kernel_rfl!, fun L => by simp⟩) (fun p hp L => (ok_due w).gok p hp L) (vs₀ := [none]) trivial (cc := fun L => [CEL L (some (.ref a))]) (fun L => by kernel_rfl!) ?_
  intro gp A b hA T hB
  obtain ⟨Fo, hB⟩ := hB
  unfold rowD at hB
  cases hB with | @list _ rs n _ Fo e rr => ?_
  obtain ⟨hs, _⟩ := Strs.of_rx rr row rfl
  have hlen := hs.length
  have hl64 := hr.len
  have il : ∀ {vs : Vals} {cs : List HP}, ∀ s, Sit ⟨KT w, feet [], b, callEnvC fd_due b.heap.objs.size 910, ns_due, gs_due, gp, frOf A⟩ vs cs s → s.heap.get? a = some (listO rs n) := fun s S => S.keep e (fun q => nomatch q) (fun _ _ q => nomatch q)
  refine G_sub (cs' := [CEL (b.heap.objs.size + 1) (some (.ref a))]) (List.Sublist.refl _) ?_
  refine G_emp ?_
  refine letG ?_
  intro fm Q0
  refine G_cons ?_
  refine G_AssignLC (cl := [("row", b.heap.objs.size + 1)]) ["k"] [] ?_ (by k_dflt rfl) (scOk_of (by kernel_rfl!)) (by k_dflt rfl) (by k_dflt rfl) (by decide +kernel)
  cell_end 5 0 0
  refine G_len (fun s S => isList_of ⟨n, il s S⟩) (by rw [hlen]; omega) ?_
  intro _
  cell_end 5 0 0
  refine G_subI ?_
  intro _
  cell_end 5 0 0
  refine G_range3 (by decide) (by decide) ?_
  intro r
  rw [hlen]
  let Z21 : List Value → List HP → Prop := fun ys cs => ∃ H, cs = [RNG r 0 ((row.length : Int) - 2) 2, ALL ys ((pairsOf row).map pairD) H, CEL (b.heap.objs.size + 1) (some (.ref a))] ∧ ys.length = (pairsOf row).length
  let J21 : Addr → Nat → List Value → Vals → List HP → Prop := fun C i ys vs cs => E2 fun H ko => A3 (ys.length = i) (vs = [ko]) (cs = [RNG r 0 ((row.length : Int) - 2) 2, ALL ys (((pairsOf row).take i).map pairD) H, CEL (b.heap.objs.size + 1) (some (.ref a))])
  refine ⟨Z21, _, _, _, J21, ⟨Src.range hA.handled (small_two hl64), ?_, ?_, ?_, ?_, ?_, ?_⟩, ?_⟩
  · rw [due_range hl64]; exact Nat.le_trans (pairs_len row) (Nat.le_trans hl64 (by decide))
  · exact sitRng (.head _)
  · exact fun C => ⟨[], none, rfl, rfl, rfl⟩
  · rintro C b' i ys vs cs s - ⟨H, ko, _, rfl, rfl⟩ S
    exact sitRng (.head _) s S
  · rintro C b' i v ys vs cs Y X hb hi ⟨tk, rfl⟩ ⟨H, ko, hyl, rfl, rfl⟩
    rw [due_range hl64] at hi
    obtain ⟨x, y, h1, h2, h3⟩ := pairs_get row i hi
    have hi64 : i ≤ 64 := by have := pairs_len row; omega
    have htk : (pairsOf row).take (i + 1) = (pairsOf row).take i ++ [(x, y)] := by rw [List.take_add_one, h3]; rfl
    obtain ⟨t1, g1⟩ := hs.getD h1
    obtain ⟨t2, g2⟩ := hs.getD h2
    refine letG ?_
    intro fm2 Q2
    refine G_sub (cs' := [RNG r 0 ((row.length : Int) - 2) 2, ALL ys (((pairsOf row).take i).map pairD) H, CEL (b.heap.objs.size + 1) (some (.ref a)), Y, X]) (.refl _) ?_
    cell_end 5 0 0
    refine G_item (fun s S => isList_of ⟨n, oldIn hb e (fun q => nomatch q) rfl rfl S⟩) (by omega) (by omega) (by rw [show ((0 : Int) + i * 2).toNat = 2 * i by omega]; exact g1) ?_
    cell_end 5 0 0
    refine G_addI ?_
    intro _
    refine G_item (fun s S => isList_of ⟨n, oldIn hb e (fun q => nomatch q) rfl rfl S⟩) (by omega) (by omega) (by rw [show ((0 : Int) + i * 2 + 1).toNat = 2 * i + 1 by omega]; exact g2) ?_
    cell_end 5 0 0
    refine G_p1 ?_
    refine G_tupAll (fun _ => .cons (F := []) (.str _ _) (.cons (F := []) (.str _ _) .nil)) (szl (Nat.le_of_ble_eq_true rfl)) ?_
    intro ta
    refine ⟨[RNG r 0 ((row.length : Int) - 2) 2, ALL (ys ++ [Value.ref ta]) (((pairsOf row).take i).map pairD ++ [PyData.tuple [PyData.str x, PyData.str y]]) (H ++ [ta]), CEL (b.heap.objs.size + 1) (some (.ref a))], .swap _ _ _, H ++ [ta], _, by rw [List.length_append, hyl]; rfl, rfl, ?_⟩
    rw [htk, List.map_append]; rfl
  · rintro C ys vs cs ⟨H, ko, hyl, rfl, rfl⟩
    rw [due_range hl64, List.take_length]
    exact ⟨H, rfl, by rw [hyl, due_range hl64]⟩
  · rintro D ys cs ⟨H, rfl, hyl⟩
    cell_end 1 0 0
    cell_end 1 0 0
    refine G_p1 (G_drop ?_)
    refine G_pair ?_
    have hd := rest_drop row
    have hp64 : (pairsOf row).length ≤ 64 := Nat.le_trans (pairs_len row) hl64
    cell_end 5 0 0
    cell_end 6 0 0
    cell_end 1 0 0
    refine ⟨str_ty, ?_⟩
    cell_end 5 0 0
    refine G_len (fun s S => isList_of (S.lsx (.head _))) (by rw [hyl]; omega) ?_
    intro _
    rw [hyl]
    cell_end 5 0 0
    refine G_mulI (IntMulOk.of_left (by decide)) ?_
    intro _
    cell_end 5 0 0
    refine ⟨a, rs, some (2 * (pairsOf row).length : Nat), none, rfl, fun s S => isList_of ⟨n, il s S⟩, by rw [hlen]; exact Nat.le_trans hl64 (by decide), by push_cast; exact .int _ _, .none, ?_⟩
    intro ja
    rw [slicePick_from']
    cell_end 5 0 0
    refine G_join (sitRaw (.head _)) (hs.drop _) ?_ ?_
    · exact join_fit (B := 64) (n := 64) (fun y hy => hr.short y (List.mem_of_mem_drop hy)) (by rw [List.length_drop]; omega) (by decide)
    intro _
    rw [← hd]
    refine G_drop ?_
    cell_end 5 0 0
    refine G_newTuple (fun _ => .cons (F := []) .none (.cons (F := []) .none (.cons (F := []) (.str _ _) .nil))) (szl (Nat.le_of_ble_eq_true rfl)) ?_
    intro ta
    cell_end 5 0 0
    refine G_p1 ?_
    refine G_shut ?_
    refine G_newTupD (cn := [_, _]) (Bears.dat (Bears.dat Bears.nil)) (szl (Nat.le_of_ble_eq_true rfl)) ?_
    intro ra
    cell_end 5 0 0
    exact Out.front (cs₁ := [_]) ⟨_, rfl⟩
end
end
section
open PySem PySem.W PyProof.Rows PySem.Calls
section
noncomputable abbrev sixN : List Str := ["a", "b", "c", "a b", "", "\""]
noncomputable def nameAt (x : Int) : Str := sixN.getD (x.fmod 6).toNat ""
noncomputable def isCut (x : Int) : Bool := (x.fdiv 6).fmod 4 == 0
noncomputable def rowStep (p : List (List Str) × List Str) (x : Int) : List (List Str) × List Str := if isCut x = true then (p.1 ++ [p.2 ++ [nameAt x]], []) else (p.1, p.2 ++ [nameAt x])
noncomputable def rowsAll (ns : List Int) : List (List Str) × List Str := ns.foldl rowStep ([], [])
noncomputable def rowsOf (script : List Int) : List (List Str) := ((rowsAll (script.take 14)).1 ++ [(rowsAll (script.take 14)).2]).filter (fun r => !r.isEmpty)
theorem rows_snoc (ns : List Int) (x : Int) : rowsAll (ns ++ [x]) = rowStep (rowsAll ns) x := List.foldl_append ..
theorem rows_from : ∀ (ns : List Int) (p : List (List Str) × List Str) (k : Nat), p.1.length ≤ k → p.2.length ≤ k → (∀ r ∈ p.1, r.length ≤ k) →
    (ns.foldl rowStep p).1.length ≤ k + ns.length ∧ (ns.foldl rowStep p).2.length ≤ k + ns.length ∧ ∀ r ∈ (ns.foldl rowStep p).1, r.length ≤ k + ns.length
  | [], p, k, h1, h2, h3 => ⟨h1, h2, h3⟩
  | x :: ns, p, k, h1, h2, h3 => by
    have e : ∀ q : List (List Str) × List Str, q = rowStep p x → q.1.length ≤ k + 1 ∧ q.2.length ≤ k + 1 ∧ ∀ r ∈ q.1, r.length ≤ k + 1 := by
      rintro q rfl
      unfold rowStep
      split
      · refine ⟨by simp; exact h1, Nat.zero_le _, fun r hr => ?_⟩
        rcases List.mem_append.mp hr with hr | hr
        · exact Nat.le_succ_of_le (h3 r hr)
        · cases List.mem_singleton.mp hr; simp; exact h2
      · exact ⟨Nat.le_succ_of_le h1, by simp; exact h2, fun r hr => Nat.le_succ_of_le (h3 r hr)⟩
    obtain ⟨e1, e2, e3⟩ := e _ rfl
    have := rows_from ns (rowStep p x) (k + 1) e1 e2 e3
    rw [show k + (x :: ns).length = k + 1 + ns.length by simp; omega]
    exact this
theorem rows_count (ns : List Int) : (rowsAll ns).1.length ≤ ns.length ∧ (rowsAll ns).2.length ≤ ns.length ∧ ∀ r ∈ (rowsAll ns).1, r.length ≤ ns.length := by
  have := rows_from ns ([], []) 0 (Nat.le_refl _) (Nat.le_refl _) (fun _ q => (nomatch q))
  rwa [Nat.zero_add] at this
noncomputable def InSix (r : List Str) : Prop := ∀ y ∈ r, y ∈ sixN
theorem nameAt_mem (x : Int) : nameAt x ∈ sixN := by
  have h1 := Int.fmod_nonneg_of_pos x (b := 6) (by decide)
  have h2 := Int.fmod_lt_of_pos x (b := 6) (by decide)
  unfold nameAt
  rw [List.getD_eq_getElem?_getD]
  have hl : (x.fmod 6).toNat < sixN.length := by show _ < 6; omega
  rw [List.getElem?_eq_getElem hl]
  exact List.getElem_mem hl
theorem rows_six : ∀ (ns : List Int) (p : List (List Str) × List Str), InSix p.2 → (∀ r ∈ p.1, InSix r) → InSix (ns.foldl rowStep p).2 ∧ ∀ r ∈ (ns.foldl rowStep p).1, InSix r
  | [], p, h1, h2 => ⟨h1, h2⟩
  | x :: ns, p, h1, h2 => by
    have h3 : InSix (p.2 ++ [nameAt x]) := fun y hy => (List.mem_append.mp hy).elim (h1 y) fun q => by cases List.mem_singleton.mp q; exact nameAt_mem x
    refine rows_six ns (rowStep p x) ?_ ?_
    · unfold rowStep; split
      · exact fun _ q => (nomatch q)
      · exact h3
    · unfold rowStep; split
      · exact fun r hr => (List.mem_append.mp hr).elim (h2 r) fun q => by cases List.mem_singleton.mp q; exact h3
      · exact h2
theorem six_len {y : Str} (h : y ∈ sixN) : y.length ≤ 64 := by
  have : ∀ y ∈ sixN, y.length ≤ 64 := by decide +kernel
  exact this y h
theorem six_free {y : Str} (h : y ∈ sixN) : tickFree y := by
  have : ∀ y ∈ sixN, 39 ∉ sg y := by decide +kernel
  exact this y h
theorem six_fine {y : Str} (h : y ∈ sixN) : PyData.strOk y = true := by
  have : ∀ y ∈ sixN, PyData.strOk y = true := by decide +kernel
  exact this y h
theorem rows_rowOk (script : List Int) : ∀ r ∈ (rowsAll (script.take 14)).1 ++ [(rowsAll (script.take 14)).2], InSix r ∧ r.length ≤ 14 := by
  obtain ⟨c1, c2, c3⟩ := rows_count (script.take 14)
  obtain ⟨d1, d2⟩ := rows_six (script.take 14) ([], []) (fun _ q => (nomatch q)) (fun _ q => (nomatch q))
  have hl : (script.take 14).length ≤ 14 := List.length_take_le ..
  intro r hr
  rcases List.mem_append.mp hr with q | q
  · exact ⟨d2 r q, Nat.le_trans (c3 r q) hl⟩
  · cases List.mem_singleton.mp q; exact ⟨d1, Nat.le_trans c2 hl⟩
theorem rowOk_of {r : List Str} (h : InSix r ∧ r.length ≤ 14) : RowOk r := ⟨Nat.le_trans h.2 (by decide), fun x hx => six_len (h.1 x hx), fun x hx => six_free (h.1 x hx), fun x hx => six_fine (h.1 x hx)⟩
theorem fine_row {r : List Str} (h : ∀ x ∈ r, PyData.strOk x = true) : Fine 1 (rowD r) := Fine.list fun d hd => by
  obtain ⟨x, hx, rfl⟩ := List.mem_map.mp hd
  exact Fine.str (h x hx)
/-- ints -/
inductive Ints : List Value → List Int → Prop
  | nil : Ints [] []
  | cons {x : Int} {t : Tok} {vs : List Value} {xs : List Int} : Ints vs xs → Ints (.int x t :: vs) (x :: xs)
theorem Ints.take {vs : List Value} {xs : List Int} (s : Ints vs xs) : ∀ k, Ints (vs.take k) (xs.take k) := by
  induction s with
  | nil => intro k; simp; exact .nil
  | cons s ih => intro k; cases k with | zero => exact .nil | succ k => exact .cons (ih k)
theorem Ints.length {vs : List Value} {xs : List Int} (s : Ints vs xs) : vs.length = xs.length := by induction s with | nil => rfl | cons _ ih => exact congrArg (· + 1) ih
theorem Ints.get {vs : List Value} {xs : List Int} (s : Ints vs xs) : ∀ {i : Nat} {v : Value}, vs[i]? = some v → E2 fun x t => xs[i]? = some x ∧ v = .int x t := by
  induction s with
  | nil => intro i v e; simp at e
  | @cons x t vs xs _ ih =>
    intro i v e
    cases i with
    | zero => simp only [List.getElem?_cons_zero, Option.some.injEq] at e; exact ⟨x, t, rfl, e.symm⟩
    | succ i => simp only [List.getElem?_cons_succ] at e ⊢; exact ih e
theorem nameAt_get (x : Int) : sixN[(x.fmod 6).toNat]? = some (nameAt x) := by
  have h1 := Int.fmod_nonneg_of_pos x (b := 6) (by decide)
  have h2 := Int.fmod_lt_of_pos x (b := 6) (by decide)
  unfold nameAt
  rw [List.getD_eq_getElem?_getD]
  have hl : (x.fmod 6).toNat < sixN.length := by show _ < 6; omega
  rw [List.getElem?_eq_getElem hl]; rfl
theorem last_get {prev : List Value} {v : Value} : (prev ++ [v])[(-(1 : Int) + ((prev ++ [v]).length : Int)).toNat]? = some v := by
  have e : (-(1 : Int) + ((prev ++ [v]).length : Int)).toNat = prev.length := by rw [List.length_append]; simp only [List.length_cons, List.length_nil]; omega
  rw [e]; simp
theorem last_ok {prev : List Value} {v : Value} : -((prev ++ [v]).length : Int) ≤ -(1 : Int) := by rw [List.length_append]; simp only [List.length_cons, List.length_nil]; omega
noncomputable abbrev ns_rows : List Str := ["script", "names", "rows", "x"]
noncomputable abbrev gs_rows : List (Str × Value) := []
theorem ok_rows (w : World) : FnOk (KT w) 891 fd_rows ns_rows gs_rows := fnOk_of (at_rows w) (by kernel_rfl!)
noncomputable def notNil : PyData → Bool
  | .list [] => false
  | _ => true
theorem sp_rows0 (w : World) (a : Addr) (script : List Int) (hl : script.length ≤ 63) : Spec w (KT w) 1 (.ref 891) ⟨[.ref a], []⟩ (fun h => E2 fun xs n => h.get? a = some (listO xs n) ∧ Ints xs script) []
    (fun v cs => E3 fun D xs F => v = .ref D ∧ cs = [RAW D (sel notNil xs (((rowsAll (script.take 14)).1 ++ [(rowsAll (script.take 14)).2]).map rowD)), ALL xs (((rowsAll (script.take 14)).1 ++ [(rowsAll (script.take 14)).2]).map rowD) F]) := by
  refine Spec.of_body (ok_rows w) (by decide +kernel) rfl (binds := [("script", .ref a)]) (fun s _ _ => BindsTo.of_eq (by kernel_rfl!)) (locs (by kernel_rfl!)) (vs₀ := [some (.ref a), none, none, none]) ⟨rfl, trivial⟩ ?_
  intro gp A b hA T hB
  obtain ⟨xs, n, e, hi⟩ := hB
  have hlen := hi.length
  refine letG ?_
  intro fm Q0
  refine G_cons ?_
  cell_end 5 0 0
  refine G_newList (ds := sixN.map .str) (fun _ => (Strs.cons (.cons (.cons (.cons (.cons (.cons .nil)))))).rx) (szl (Nat.le_of_ble_eq_true rfl)) ?_
  intro na
  cell_end 5 0 0
  refine G_newList (fun _ => .nil) (by decide) ?_
  intro la
  cell_end 5 0 0
  refine G_newListR (szl (Nat.le_of_ble_eq_true rfl)) ?_
  intro ra
  refine ⟨_, Put.here.there.there, ?_⟩
  cell_end 1 0 0
  refine G_emp ?_
  cell_end 1 0 0
  refine G_For ?_
  cell_end 5 0 0
  refine ⟨a, xs, none, some (14 : Nat), rfl, fun s S => isList_of ⟨n, S.keep e (fun q => nomatch q) (fun _ _ q => nomatch q)⟩, by rw [hlen]; exact Nat.le_trans hl (by decide), .none, .int _ _, ?_⟩
  intro sa
  rw [slicePick_upto']
  have hi14 := hi.take 14
  have hl14 : (script.take 14).length ≤ 14 := List.length_take_le ..
  generalize hsc : script.take 14 = sc at *
  generalize hxc : xs.take 14 = xc at *
  generalize hnv : [Value.str "a" _, _, _, _, _, _] = nv
  have hns : Strs nv sixN := by subst hnv; exact (Strs.cons (.cons (.cons (.cons (.cons (.cons .nil))))))
  let J1 : Nat → Vals → List HP → Prop := fun i vs cs => E5 fun xo prev lv F la => A3 (vs = [some (.ref a), some (.ref na), some (.ref ra), xo]) (prev.length = (rowsAll (sc.take i)).1.length) (cs = [RAW sa xc, ALL prev ((rowsAll (sc.take i)).1.map rowD) F, RAW ra (prev ++ [.ref la]), LSX la lv ((rowsAll (sc.take i)).2.map .str) [], LSX na nv (sixN.map .str) []])
  refine ⟨_, _, _, J1, Src.list hA.handled sa xc, ⟨none, [], [], [], la, rfl, rfl, rfl⟩, ?_, ?_, ?_⟩
  · rintro i vs cs s ⟨xo, prev, lv, F, la, rfl, hpl, rfl⟩ S
    exact sitRaw (.head _) s S
  · rintro i v vs cs X hlt hv ⟨xo, prev, lv, F, la, rfl, hpl, rfl⟩
    obtain ⟨x, t, hx, rfl⟩ := hi14.get hv
    have htk : sc.take (i + 1) = sc.take i ++ [x] := by rw [List.take_add_one, hx]; rfl
    have hi' : i < sc.length := (List.getElem?_eq_some_iff.mp hx).1
    obtain ⟨c1, c2, c3⟩ := rows_count (sc.take i)
    rw [List.length_take] at c1 c2
    have hstep := rows_snoc (sc.take i) x
    rw [← htk] at hstep
    unfold rowStep at hstep
    generalize hP : rowsAll (sc.take i) = P at *
    obtain ⟨nt, hnt⟩ := hns.getD (nameAt_get x)
    refine G_sub (cs' := [RAW sa xc, ALL prev (P.1.map rowD) F, RAW ra (prev ++ [.ref la]), LSX la lv (P.2.map .str) [], LSX na nv (sixN.map .str) [], X]) (.refl _) ?_
    cell_end 5 0 0
    cell_end 6 0 0
    cell_end 5 0 0
    refine G_negI ?_
    intro _
    refine G_itemN (v := .ref la) (sitRaw (.tail _ (.tail _ (.head _)))) (by decide) last_ok (by decide) last_get ?_
    refine ⟨LSX.ty (.tail _ (.tail _ (.tail _ (.head _)))), ?_⟩
    cell_end 5 0 0
    refine G_modI (by decide) ?_
    intro _
    refine G_item (fun s S => isList_of (S.lsx (.tail _ (.tail _ (.tail _ (.tail _ (.head _))))))) (Int.fmod_nonneg_of_pos _ (by decide)) (Int.lt_trans (Int.fmod_lt_of_pos _ (by decide)) (by decide)) hnt ?_
    refine G_p3 ?_
    refine G_append (fun _ => .str _ _) (by rw [List.length_map]; exact Nat.le_trans c2 (Nat.le_trans (Nat.min_le_left _ _) (Nat.le_trans (Nat.le_of_lt hi') (Nat.le_trans hl14 (by decide))))) ?_
    refine ⟨fun _ q => (nomatch q), ?_⟩
    cell_end 5 0 0
    refine G_divI (by decide) (by decide) ?_
    intro _
    cell_end 5 0 0
    refine G_modI (by decide) ?_
    intro _
    cell_end 5 0 0
    refine G_eqI ?_
    cell_end 5 0 0
    refine bif_s (fun h1 => ?_) (fun h1 => ?_)
    · have hc : isCut x = true := h1
      rw [if_pos hc] at hstep
      cell_end 5 0 0
      cell_end 6 0 0
      cell_end 1 0 0
      refine ⟨rawTy (.tail _ (.tail _ (.tail _ (.head _)))), ?_⟩
      cell_end 5 0 0
      refine G_newList (fun _ => .nil) (by decide) ?_
      intro lb
      cell_end 5 0 0
      refine G_p4 ?_
      refine G_appendR (by rw [List.length_append, hpl]; simp only [List.length_cons, List.length_nil]; have : 1000 ≤ sizeLine := by decide
                           omega) ?_
      refine ⟨fun _ q => (nomatch q), ?_⟩
      cell_end 1 0 0
      refine G_p4 (G_p3 ?_)
      refine G_fold ?_
      cell_end 5 0 0
      refine ⟨[RAW sa xc, ALL (prev ++ [.ref la]) ((P.1 ++ [P.2 ++ [nameAt x]]).map rowD) (F ++ la :: []), RAW ra (prev ++ [.ref la] ++ [.ref lb]), LSX lb [] [] [], LSX na nv (sixN.map .str) []], ?_, some (.int x t), prev ++ [.ref la], [], F ++ la :: [], lb, rfl, ?_, ?_⟩
      · rw [show ((P.1 ++ [P.2 ++ [nameAt x]]).map rowD) = P.1.map rowD ++ [PyData.list (P.2.map .str ++ [.str (nameAt x)])] by rw [List.map_append]; simp [rowD]]
        exact (List.perm_middle (l₁ := [_, _, _])).symm
      · rw [hstep, List.length_append, List.length_append, hpl]; rfl
      · rw [hstep]; rfl
    · have hc : isCut x = false := h1
      rw [if_neg (by rw [hc]; decide)] at hstep
      cell_end 5 0 0
      refine ⟨[RAW sa xc, ALL prev (P.1.map rowD) F, RAW ra (prev ++ [.ref la]), LSX la (lv ++ [.str (nameAt x) nt]) ((P.2 ++ [nameAt x]).map .str) [], LSX na nv (sixN.map .str) []], ?_, some (.int x t), prev, lv ++ [.str (nameAt x) nt], F, la, rfl, ?_, ?_⟩
      · rw [List.map_append]; exact List.perm_middle (l₁ := [RAW sa xc, ALL prev (P.1.map rowD) F, RAW ra (prev ++ [.ref la])])
      · rw [hstep]; exact hpl
      · rw [hstep]
  · rintro vs cs ⟨xo, prev, lv, F, la, rfl, hpl, rfl⟩
    rw [hi14.length, List.take_length] at *
    generalize hP : rowsAll sc = P at *
    have hD : P.1.map rowD ++ [PyData.list (P.2.map .str)] = (P.1 ++ [P.2]).map rowD := by rw [List.map_append]; simp [rowD]
    obtain ⟨c1, c2, c3⟩ := rows_count sc
    rw [hP] at c1 c2 c3
    cell_end 1 0 0
    refine G_drop (G_p2 ?_)
    refine G_fold ?_
    rw [hD]
    refine G_p2 (G_drop (G_p1 ?_))
    cell_end 1 0 0
    cell_end 1 0 0
    refine G_ListComp (cl := []) ["row"] [] ?_ (scOk_of (by kernel_rfl!)) (by k_dflt rfl) (by k_dflt rfl) (by decide +kernel)
    cell_end 5 0 0
    have hrows := rows_rowOk script
    rw [hsc, hP] at hrows
    generalize hX : prev ++ [Value.ref la] = Xs
    generalize hR : P.1 ++ [P.2] = R at *
    generalize F ++ [la] = F'
    have hXl : Xs.length = R.length := by rw [← hX, ← hR, List.length_append, List.length_append, hpl]; rfl
    have hX64 : Xs.length ≤ sizeLine := by
      rw [hXl, ← hR, List.length_append]
      exact Nat.le_trans (Nat.add_le_add_right (Nat.le_trans c1 hl14) 1) (by decide)
    let Z21 : List Value → List HP → Prop := fun ys cs => ys = sel notNil Xs (R.map rowD) ∧ cs = [RAW ra Xs, ALL Xs (R.map rowD) F']
    let J21 : Addr → Nat → List Value → Vals → List HP → Prop := fun C i ys vs cs => ∃ ro, A3 (vs = [ro]) (ys = sel notNil (Xs.take i) ((R.map rowD).take i)) (cs = [RAW ra Xs, ALL Xs (R.map rowD) F'])
    refine ⟨Z21, _, _, _, J21, ⟨Src.list hA.handled ra Xs, hX64, sitRaw (.head _), fun C => ⟨none, rfl, rfl, rfl⟩, ?_, ?_, ?_⟩, ?_⟩
    · rintro C b' i ys vs cs s - ⟨ro, rfl, rfl, rfl⟩ S
      exact sitRaw (.head _) s S
    · rintro C b' i v ys vs cs Y X hb hlt hv ⟨ro, rfl, rfl, rfl⟩
      have hiR : i < R.length := by rw [← hXl]; exact hlt
      have hr := List.getElem?_eq_getElem hiR
      generalize hrr : R[i] = r at hr
      have hd : (R.map rowD)[i]? = some (rowD r) := by rw [List.getElem?_map, hr]; rfl
      have hrok := hrows r (List.mem_of_getElem? hr)
      have hsel : sel notNil (Xs.take (i + 1)) ((R.map rowD).take (i + 1)) = sel notNil (Xs.take i) ((R.map rowD).take i) ++ (if notNil (rowD r) = true then [v] else []) := by
        rw [List.take_add_one, hv, List.take_add_one, hd]
        exact sel_snoc notNil (by rw [List.length_take, List.length_take, List.length_map, hXl])
      refine letG ?_
      intro fm2 Q2
      refine G_sub (cs' := [RAW ra Xs, ALL Xs (R.map rowD) F', Y, X]) (.refl _) ?_
      cell_end 5 0 0
      refine G_newList (fun _ => .nil) (by decide) ?_
      intro ea
      refine G_neD (da := rowD r) (db := .list []) (fun s S => ?_) (fun s S => ?_) ((fine_row (rowOk_of hrok).fine).shaped (by decide)) rfl hA.cmp ?_
      · obtain ⟨_, rr⟩ := (S.own _ (.tail _ (.tail _ (.head _)))).1
        obtain ⟨d, H, q1, q2, _⟩ := rr.get hv
        rw [hd] at q1; cases q1
        exact ⟨H, q2⟩
      · exact ⟨_, (LSX.dat (S.own _ (.head _)).1).2⟩
      refine G_drop ?_
      cell_end 5 0 0
      have hnn : (!PyData.eqv (rowD r) (.list [])) = notNil (rowD r) := by cases r <;> rfl
      rw [hnn]
      refine bif_s (fun h1 => ?_) (fun h1 => ?_)
      · cell_end 5 0 0
        exact ⟨[RAW ra Xs, ALL Xs (R.map rowD) F'], .refl _, _, rfl, by rw [hsel, if_pos h1], rfl⟩
      · exact ⟨[RAW ra Xs, ALL Xs (R.map rowD) F'], .refl _, _, rfl, by rw [hsel, if_neg (by rw [h1]; decide), List.append_nil], rfl⟩
    · rintro C ys vs cs ⟨ro, rfl, rfl, rfl⟩
      refine ⟨?_, rfl⟩
      rw [List.take_length, hXl, List.take_of_length_le (by rw [List.length_map]; exact Nat.le_refl _)]
    · rintro D ys cs ⟨rfl, rfl⟩
      cell_end 5 0 0
      exact Out.ret (cs₁ := [RAW D (sel notNil Xs (R.map rowD)), ALL Xs (R.map rowD) F']) (junk := [RAW ra Xs]) (List.Perm.cons _ (.swap _ _ _)) ⟨D, Xs, F', rfl, by rw [hsc, hP, hR]⟩
theorem sp_rows (w : World) (a : Addr) (script : List Int) (hl : script.length ≤ 63) : Spec w (KT w) 1 (.ref 891) ⟨[.ref a], []⟩ (fun h => E2 fun xs n => h.get? a = some (listO xs n) ∧ Ints xs script) [] (fun v cs => ∃ F, cs = [DAT v (rowsD (rowsOf script)) F]) := by
  refine (sp_rows0 w a script hl).conv ?_
  rintro v cs h ⟨D, xs, F, rfl, rfl⟩ ok ap
  obtain ⟨ob, e, n, rfl⟩ := ok _ (.head _)
  obtain ⟨nd, r⟩ := ok _ (.tail _ (.head _))
  obtain ⟨F', sb, r'⟩ := r.sel notNil
  have hD : D ∉ F := (List.pairwise_cons.mp ap).1 _ (.head _) D (.head _)
  have hf : (((rowsAll (script.take 14)).1 ++ [(rowsAll (script.take 14)).2]).map rowD).filter notNil = (rowsOf script).map rowD := by
    unfold rowsOf
    rw [List.filter_map]
    congr 1
    apply List.filter_congr
    intro r _
    cases r <;> rfl
  rw [hf] at r'
  refine ⟨_, ⟨D :: F', rfl⟩, one_mem ⟨List.nodup_cons.mpr ⟨fun q => hD (sb.subset q), nd.sublist sb⟩, .list e r'⟩, List.pairwise_singleton _ _, fun x hx => ?_⟩
  obtain ⟨c, hc, hx⟩ := mem_feet.mp hx
  cases List.mem_singleton.mp hc
  cases hx with
  | head => exact mem_feet.mpr ⟨_, .head _, .head _⟩
  | tail _ hx => exact mem_feet.mpr ⟨_, .tail _ (.head _), sb.subset hx⟩
end
end
section
open PySem PySem.W PyProof.Rows PySem.Calls
section
noncomputable abbrev qz : Str := "'\"'\"'"
noncomputable def HitAt (x : Str) : Prop := (∃ c rest, x.cps.toList = c :: rest ∧ (c = 39 ∨ c = 34)) ∨ ∃ c d rest, x.cps.toList = c :: d :: rest ∧ (c = 97 ∨ c = 98 ∨ c = 99) ∧ (d = 39 ∨ d = 32)
theorem six_cases {y : Str} (h : y ∈ sixN) : sg y = [97] ∨ sg y = [98] ∨ sg y = [99] ∨ sg y = [97, 32, 98] ∨ sg y = [] ∨ sg y = [34] := by
  have : ∀ y ∈ sixN, sg y = [97] ∨ sg y = [98] ∨ sg y = [99] ∨ sg y = [97, 32, 98] ∨ sg y = [] ∨ sg y = [34] := by decide +kernel
  exact this y h
theorem six_abc {y : Str} (h : y ∈ sixN) : (["a", "b", "c"] : List Str).any (· == y) = decide (sg y = [97] ∨ sg y = [98] ∨ sg y = [99]) := by
  have : ∀ y ∈ sixN, (["a", "b", "c"] : List Str).any (· == y) = decide (sg y = [97] ∨ sg y = [98] ∨ sg y = [99]) := by decide +kernel
  exact this y h
theorem wr_one (y : Str) : wr [y] = if (["a", "b", "c"] : List Str).any (· == y) = true then y else "'" ++ y ++ "'" := by
  unfold wr
  have e : (decide (((([y] : List Str).length : Nat) : Int) = 1) && (["a", "b", "c"] : List Str).any (· == ([y] : List Str).headD "")) = (["a", "b", "c"] : List Str).any (· == y) := by rfl
  rw [e]; rfl
theorem wr_more {y z : Str} {r : List Str} : wr (y :: z :: r) = "'" ++ Txt.join qz (y :: z :: r) ++ "'" := by
  unfold wr
  rw [if_neg]
  intro h
  have := of_decide_eq_true (Bool.and_eq_true_iff.mp h).1
  simp at this
  omega
theorem quote_ways {row : List Str} (h : InSix row) (hne : row ≠ []) : (row = [(Str.ofString "")]) ∨ (∃ c, A3 ((Txt.join "'" row).cps.toList = [c]) (c = 97 ∨ c = 98 ∨ c = 99) (wr row = Txt.join "'" row)) ∨ (HitAt (Txt.join "'" row) ∧ (Txt.join "'" row).length ≠ 0 ∧ wr row = "'" ++ Txt.join qz row ++ "'") := by
  match row, hne with
  | [y], _ =>
    have hy := h y (.head _)
    have hw := wr_one y
    rw [six_abc hy] at hw
    have hj : Txt.join "'" [y] = y := rfl
    have hq : Txt.join qz [y] = y := rfl
    rw [hj, hq]
    have hl : ∀ {n : Nat} {l : List Nat}, sg y = l → y.length = l.length := fun e => by rw [← sg_len, e]
    rcases six_cases hy with e | e | e | e | e | e
    · exact .inr (.inl ⟨97, e, .inl rfl, by rw [hw, e]; rfl⟩)
    · exact .inr (.inl ⟨98, e, .inr (.inl rfl), by rw [hw, e]; rfl⟩)
    · exact .inr (.inl ⟨99, e, .inr (.inr rfl), by rw [hw, e]; rfl⟩)
    · exact .inr (.inr ⟨.inr ⟨97, 32, [98], e, .inl rfl, .inr rfl⟩, by rw [hl (n := 0) e]; decide, by rw [hw, e]; rfl⟩)
    · exact .inl (by rw [sg_ext (y := Str.ofString "") (e.trans (by decide +kernel))])
    · exact .inr (.inr ⟨.inl ⟨34, [], e, .inr rfl⟩, by rw [hl (n := 0) e]; decide, by rw [hw, e]; rfl⟩)
  | y :: z :: r, _ =>
    have hy := h y (.head _)
    have e0 : sg (Txt.join "'" (y :: z :: r)) = sg y ++ 39 :: sg (Txt.join "'" (z :: r)) := by
      rw [sg_join, sg_join, tick_eq]
      show sg y ++ [39] ++ jn [39] ((z :: r).map sg) = _
      simp; rfl
    refine .inr (.inr ⟨?_, ?_, wr_more⟩)
    · rcases six_cases hy with e | e | e | e | e | e <;> rw [e] at e0
      · exact .inr ⟨97, 39, _, e0, .inl rfl, .inl rfl⟩
      · exact .inr ⟨98, 39, _, e0, .inr (.inl rfl), .inl rfl⟩
      · exact .inr ⟨99, 39, _, e0, .inr (.inr rfl), .inl rfl⟩
      · exact .inr ⟨97, 32, _, e0, .inl rfl, .inr rfl⟩
      · exact .inl ⟨39, _, e0, .inl rfl⟩
      · exact .inl ⟨34, _, e0, .inr rfl⟩
    · rw [← sg_len, e0]; simp
noncomputable abbrev ns_quote : List Str := ["s"]
noncomputable abbrev gs_quote : List (Str × Value) := [("_find_unsafe", .ref 879)]
theorem ok_quote (w : World) : FnOk (KT w) 886 fd_quote ns_quote gs_quote := fnOk_of (at_quote w) (by kernel_rfl!)
theorem findOk (w : World) : FindOk (KT w) := ⟨by kernel_rfl!, by kernel_rfl!, by kernel_rfl!⟩
theorem keeps_find (w : World) : Keeps w (KT w) (.ref 879) := fun h X => ⟨.machine, .inr (.inl rfl), (Looks.ld (part := none) (X _ _ (findOk w).h9)).andThen (Looks.of_pure rfl)⟩
theorem truthyS {w : World} {A : Around} {fm : Fm} {vs : Vals} {cs : List HP} {E : Value → Vals → List HP → Prop} {x : Str} {t : Tok} {Q : Bool → Vals → List HP → Prop} (hx : x.length ≤ 1000000) (h : Q ((x.length : Int) != 0) vs cs) : G w A fm (truthy (.str x t)) Q E vs cs := fun s S =>
  P.truthy_str (by omega) ⟨vs, cs, S.toks _, h⟩
/-- a text is asked whether it is empty: new objects are made -/
theorem raw_ifnot {w : World} {A : Around} {fm : Fm} {vs : Vals} {cs : List HP} {E : Value → Shared → Prop} {s : Shared} {Q : Flow → Shared → Prop} {x a : Str} {t : Tok} {np up ip : Pos} {body rest : List Stmt} (S : Sit fm vs cs s) (g : Get fm.ns vs x (.str a t)) (hx : a.length ≤ 1000000) (h0 : a.length ≠ 0)
    (k : ∀ s', Sit fm vs cs s' → 1 ≤ s'.toks → wpAny (MD w) A (execs rest fm.env) Q E s') : wpAny (MD w) A (execs (.If (.UnaryOp .Not (.Name x np) up) body [] ip :: rest) fm.env) Q E s := by
  obtain ⟨m, n, ag⟩ := S.loc
  refine wpAny_execs_cons (wpAny_If (wpAny_isTrue_Not (wpAny_isTrue_value (wpAny_Name (wpAny_loadName_local S.fok.fk (S.fok.kind x g.mem) n (g.agree ag) (P.truthy_str (by omega) ?_)) (S.fok.dbg x g.mem)))))
  have e : ((a.length : Int) != 0) = true := by simpa using h0
  rw [e]
  exact wpAny_execs_nil (k _ (S.toks _) (Nat.succ_le_succ (Nat.zero_le _)))
theorem sp_quote (w : World) (row : List Str) (t : Tok) (hr : InSix row ∧ row.length ≤ 14) (hne : row ≠ []) : Spec w (KT w) 1 (.ref 886) ⟨[.str (Txt.join "'" row) t], []⟩ (fun _ => True) [] (fun v cs => cs = [] ∧ ∃ t, v = .str (wr row) t) := by
  have hro := rowOk_of hr
  have hj := hro.join
  refine Spec.of_body (ok_quote w) (by decide +kernel) rfl (binds := [("s", .str (Txt.join "'" row) t)]) (fun s _ _ => BindsTo.of_eq (by kernel_rfl!)) (locs (by kernel_rfl!)) (vs₀ := [some (.str (Txt.join "'" row) t)]) ⟨rfl, trivial⟩ ?_
  intro gp A b hA T hB
  rcases quote_ways hr.1 hne with rfl | ⟨c, e, hc, hw⟩ | ⟨hh, hl0, hw⟩
  · refine letG ?_
    intro fm Q0
    refine G_cons ?_
    cell_end 5 0 0
    refine truthyS (by decide +kernel) ?_
    cell_end 5 0 0
    refine bif_s (fun _ => ?_) fun h => absurd h (by decide +kernel)
    cell_end 5 0 0
    exact Out.nil ⟨rfl, _, by rfl⟩
  · have hl : ((Txt.join "'" row).length : Int) != 0 := by rw [← sg_len, show sg (Txt.join "'" row) = [c] from e]; rfl
    refine G_cons ?_
    cell_end 5 0 0
    refine truthyS (Nat.le_trans hj (by decide)) ?_
    rw [hl]
    refine bif_f ?_
    cell_end 5 0 0
    refine G_callWith (keeps_find w) ?_ (by k_dflt rfl)
    cell_end 5 0 0
    refine G_findMiss (findOk w) ⟨c, e, hc⟩ ?_
    cell_end 5 0 0
    try refine G_is rfl ?_
    try refine G_truthy_bool (bif_t ?_)
    cell_end 5 0 0
    exact Out.nil ⟨rfl, t, by rw [hw]⟩
  · have hl : ((Txt.join "'" row).length : Int) != 0 := by simpa using hl0
    intro s S
    refine raw_ifnot S Get.here (Nat.le_trans hj (by decide)) hl0 fun s1 S1 t1 => ?_
    refine G_seqT (Q1 := fun fl vs' cs' => fl = .next ∧ vs' = [some (.str (Txt.join "'" row) t)] ∧ cs' = []) S1 t1 ?_ ?_
    · refine G_If ?_
      cell_end 5 0 0
      refine G_callWith (keeps_find w) ?_ (by k_dflt rfl)
      cell_end 5 0 0
      refine G_findHit (findOk w) (Nat.le_trans hj (by decide)) hh ?_
      intro fa
      cell_end 5 0 0
      try refine G_is rfl ?_
      try refine G_truthy_bool (bif_f ?_)
      exact ⟨rfl, rfl, rfl⟩
    · rintro fl vs cs s2 ⟨rfl, rfl, rfl⟩ S2 t2
      dsimp only
      refine wpAny_execs_cons (wpAny_Return_some (wpAny_BinOp (wpAny_BinOp (wpAny_Constant_str (raw_replace (S2.toks _) (Nat.le_trans t2 (Nat.le_succ _)) Get.here (by decide +kernel) (Nat.le_trans hj (by decide)) (by decide +kernel) (by k_dflt rfl) fun t' k => ?_)))))
      have hrep : Txt.replace (Txt.join "'" row) "'" "'\"'\"'" = Txt.join qz row := by rw [tick_eq]; exact replace_join hro.free
      rw [hrep]
      have hqz : (Txt.join qz row).length ≤ 4416 := row_le ⟨hro.len, hro.short⟩
      have h1 : ("'" : Str).length = 1 := by decide +kernel
      refine PyProof.Rows.add_str (fun t3 k3 => wpAny_Constant_str (PyProof.Rows.add_str (fun t4 k4 => ?_) ?_)) ?_
      · exact ⟨_, _, S2.toks _, Out.nil ⟨rfl, t4, by rw [hw]⟩⟩
      · rw [Str.length_append, h1]; exact szl (by omega)
      · rw [h1]; exact szl (by omega)
end
end
section
open PySem PySem.W PyProof.Rows PySem.Calls
section
/-- what holds where the frames are not known holds where they are -/
theorem codeAny_noFrames {M : Model} {A : Around} {c : Code} {R : Result → Shared → Prop} {s : Shared} (h : codeAny M { A with frames := none } c R s) : codeAny M A c R s := fun Γ p hc hb =>
  h Γ p hc ⟨hb.1, hb.2.1, fun _ q => (nomatch q), hb.2.2.2.1, hb.2.2.2.2⟩
noncomputable def TAB (P : Addr) (ps : Array Value) : HP := HP.one P fun o => o = tabO ps
theorem stp_of {gp : GP} {F fr : List Addr} {cs : List HP} {s s' : Shared} (h : (gp s.gens s.drawn → gp s'.gens s'.drawn) ∧ s'.os = s.os ∧ ∀ a o, s.heap.get? a = some o → a ∉ F → s'.heap.get? a = some o) (own : ∀ c ∈ cs, c.ok s'.heap ∧ ∀ a ∈ c.foot, a ∈ F ∨ s.heap.objs.size ≤ a) (ap : cs.Pairwise Apart) : Stp gp F fr cs s s' :=
  ⟨h.1, h.2.1, fun a o e q _ => h.2.2 a o e q, fun a o e _ q => ⟨o.slots, h.2.2 a o e q⟩, own, ap⟩
noncomputable def bareGP : GP := fun g _ => AllBare g
noncomputable abbrev ns_joinS : List Str := ["split_command"]
theorem ok_joinS (w : World) : FnOk (KT w) 878 fd_joinS ns_joinS [] := fnOk_of (at_joinS w) (by kernel_rfl!)
noncomputable abbrev vsCode (w : World) : Array Value := match (KT w).lookup 877 with | some ⟨_, _, .fields vs, _⟩ => vs | _ => #[]
theorem code877 (w : World) : (KT w).lookup 877 = some { cls := .type "code", data := .fields (vsCode w) } := by kernel_rfl!
theorem mod4 (w : World) : (KT w).lookup 4 = some { cls := .type "module", dict := some 0 } := by kernel_rfl!
theorem bi_main (w : World) : nsIn (KT w) mainGlobals "__builtins__" = some (some (.ref 4)) := by kernel_rfl!
theorem quote_main (w : World) : nsIn (KT w) mainGlobals "quote" = some (some (.ref 886)) := by kernel_rfl!
theorem sp_join (w : World) (a : Addr) (rows : List (List Str)) (hr : ∀ r ∈ rows, InSix r ∧ r.length ≤ 14 ∧ r ≠ []) (hn : rows.length ≤ 15) :
    SpecP bareGP w (KT w) 3 (.ref 878) ⟨[.ref a], []⟩ (fun h => a ≠ 873 ∧ (E2 fun xs n => h.get? a = some (listO xs n) ∧ Strs xs (rows.map (Txt.join "'")))) [TAB 873 #[]] (fun v cs => E2 fun ps t => v = .str (lineOf rows) t ∧ cs = [TAB 873 ps]) := by
  refine SpecP.of_body (ok_joinS w) (by decide +kernel) rfl (binds := [("split_command", .ref a)]) (fun s _ _ => BindsTo.of_eq (by kernel_rfl!)) (locs (by kernel_rfl!)) (vs₀ := [some (.ref a)]) ⟨rfl, trivial⟩ ?_
  intro A b hA T hB s S
  obtain ⟨hne, xs, n, e, hs⟩ := hB
  have hlen : xs.length = rows.length := by rw [hs.length, List.length_map]
  have hroom : A.depth < recursionLimit := by have := hA.depth; omega
  obtain ⟨ot, eT, rfl⟩ := (S.own _ (.head _)).1
  have ea : s.heap.get? a = some (listO xs n) := S.keep e (fun q => by
    obtain ⟨c, hc, hx⟩ := mem_feet.mp q
    cases List.mem_singleton.mp hc
    exact hne (List.mem_singleton.mp hx)) (fun _ _ q => nomatch q)
  have hl : s.heap.IsList a xs.toArray := isList_of ⟨n, ea⟩
  obtain ⟨m, ns, ag⟩ := S.loc
  refine wpAny_execs_cons (wpAny_Return_some (wpAny_Call_method (base_of rfl) rfl rfl F.plainAttrs_str F.slot_str_join F.type_str_join (wpAny_Constant_str ⟨typeIs_str _ _ _, fun b q => (nomatch q), ?_⟩)))
  refine callWith_of rfl (keeps_plain (w := w) (K := KT w) fun _ q => (nomatch q)) (evalArgs_plain (spliced_cons ?_))
  refine wpAny_GeneratorExp_walksQD hA.handled rfl rfl (by decide +kernel) rfl rfl rfl hroom ?_ (fun _ => rfl)
  refine wpAny_Name (wpAny_loadName_local S.fok.fk rfl ns ((Get.here (ns := []) (vs := [])).agree ag) ?_) rfl
  refine wpAny_pyIter_list hl ⟨S.top.lim.push _, ?_⟩
  refine wpAny_genexprCodeX (c := 877) (P := 873) (ps := #[]) rfl ?_ ?_ rfl fun c' h' tk hx hge hlt hcode' _ htab' _ => ?_
  · exact ⟨_, vsCode w, "/claim/cut.py", 1437, 3, 0, true, 318, 0, tabO #[], Heap.get?_push_of_some _ (S.top.kin _ _ (code877 w)), rfl, by kernel_rfl!, by kernel_rfl!, by kernel_rfl!, by kernel_rfl!, by kernel_rfl!, Heap.get?_push_of_some _ eT, rfl, trivial, by decide⟩
  · exact ⟨⟨_, vsCode w, Heap.get?_push_of_some _ (S.top.kin _ _ (code877 w)), rfl, rfl, by kernel_rfl!⟩, Heap.get?_push_of_some _ eT⟩
  dsimp only at hx hge hlt hcode' htab' ⊢
  have pushK : ∀ c o, s.heap.get? c = some o → (s.heap.push { cls := .type "list_iterator", data := .fields #[.ref a, .int 0 0] }).get? c = some o := fun c o q => Heap.get?_push_of_some _ q
  have up : ∀ c o, c ≠ 873 → s.heap.get? c = some o → h'.get? c = some o := fun c o hc q => hx c o hc (pushK c o q)
  obtain ⟨mg, ng⟩ := S.top.gl
  have hf : Free (KT w) 873 := S.free (.head _) (.head _)
  have ng' : h'.Ns mainGlobals mg := by obtain ⟨o, es, ep, q, r⟩ := ng; exact ⟨o, es, ep, up _ _ (fun z => hf.2.2.2 z.symm) q, r⟩
  have kin' : (KT w).In h' := fun c o q => up c o (fun z => by rw [z, hf.1] at q; cases q) (S.top.kin c o q)
  refine wpAny_builtinsFor (m := mg) ng' (mg_of S.top.kin ng (bi_main w)) (by decide) (kin' _ _ (mod4 w)) rfl rfl rfl ?_
  have lim' : h'.NoLimit := by obtain ⟨mc, nc, q⟩ := S.top.lim; exact ⟨mc, by obtain ⟨o, es, ep, q, r⟩ := nc; exact ⟨o, es, ep, up _ _ (fun z => hf.2.2.1 z.symm) q, r⟩, q⟩
  have hal : a < s.heap.objs.size := Heap.lt_size ea
  have sz' : s.heap.objs.size < h'.objs.size := by
    have : (s.heap.push { cls := .type "list_iterator", data := .fields #[.ref a, .int 0 0] }).objs.size ≤ c' := hge
    rw [Heap.size_push] at this
    exact Nat.lt_of_lt_of_le (Nat.lt_of_succ_le this) (Nat.le_of_lt hlt)
  have h873 : (873 : Nat) < s.heap.objs.size := Heap.lt_size eT
  refine ⟨s.heap.objs.size, [s.heap.objs.size, a], [s.heap.objs.size], xs.toArray.size, _, _, fun _ => true, fun i y => ∃ t, y = .str (wr (rows.getD i [])) t, rfl, (fun A' hA' => Walks.list hA' _ _ (Nat.ne_of_lt hal) xs.toArray), ⟨⟨_, hx _ _ (Nat.ne_of_gt h873) (Heap.get?_push_size _ rfl), rfl, rfl⟩, isList_of ⟨n, up _ _ hne ea⟩⟩, ?_, lim', ?_, ?_, ?_⟩
  · intro c hc
    cases hc with
    | head => exact sz'
    | tail _ hc => cases List.mem_singleton.mp hc; exact Nat.lt_trans hal sz'
  · intro q
    obtain ⟨mc, nc, _⟩ := S.top.lim
    exact Nat.ne_of_lt nc.lt (List.mem_singleton.mp q)
  · intro href hk
    refine ⟨fun A' E' i v s₂ m₂ _ _ _ _ _ _ _ => wpAny_tests_nil ⟨rfl, s₂.heap, s₂.toks, rfl, fun _ _ q => q⟩, fun A' E' i v s₂ m₂ hh hd hu hP _ hn2 hm2 hfp2 => ?_⟩
    have keep2 : ∀ c o, s.heap.get? c = some o → c ∉ [(873 : Addr)] → s₂.heap.get? c = some o := fun c o q hc =>
      hfp2 c (List.mem_range.mpr (Nat.lt_trans (Heap.lt_size q) sz')) (fun z => Nat.ne_of_lt (Heap.lt_size q) (List.mem_singleton.mp z)) o (hk c o (up c o (fun z => hc (z ▸ .head _)) q))
    have T2 : TP (KT w) s₂.heap := S.top.lift (F := [873]) (fun c hc => by cases List.mem_singleton.mp hc; exact hf) keep2
    obtain ⟨mg2, ng2⟩ := T2.gl
    have hPx : xs[i]? = some v := by simpa using hP
    obtain ⟨x, t, hx2, rfl⟩ := hs.get hPx
    rw [List.getElem?_map, Option.map_eq_some_iff] at hx2
    obtain ⟨row, hrow, rfl⟩ := hx2
    obtain ⟨r1, r2, r3⟩ := hr row (List.mem_of_getElem? hrow)
    have hgd : rows.getD i [] = row := by rw [List.getD_eq_getElem?_getD, hrow]; rfl
    refine wpAny_Call_NameR (Calls.Name_function_global rfl rfl (Calls.loadGlobal_global ng2 (mg_of T2.kin ng2 (quote_main w)) ?_) rfl)
    refine callWith_of rfl (keeps_top (w := w) (K := KT w) (by kernel_rfl!)) (evalArgs_plain (spliced_cons (wpAny_Name (wpAny_loadName_local rfl rfl hn2 hm2 (spliced_nil ⟨T2.kin, ?_⟩)) rfl)))
    have rm : Rm { A' with frames := none } 1 := ⟨hh, by have := hA.depth; show A'.depth + 1 < _; omega, by have := hA.units; show A'.units + 16 * 1 + 100 < _; omega⟩
    refine wpAny_call (codeAny_noFrames (codeAny_mono (sp_quote w row t ⟨r1, r2⟩ r3 (fun g d => g = s₂.gens ∧ d = s₂.drawn) { A' with frames := none } s₂ rm T2 (fun _ q => (nomatch q)) ⟨rfl, rfl⟩ trivial ⟨fun _ q => (nomatch q), List.Pairwise.nil⟩) ?_))
    rintro r s3 ⟨v, cs1, rfl, st, rfl, t3, rfl⟩
    refine ⟨⟨t3, by rw [hgd]⟩, s3.heap, s3.toks, ?_, fun c o q => st.ext c o q (fun z => (nomatch z)) (fun z => (nomatch z))⟩
    obtain ⟨g1, g2⟩ := st.gens ⟨rfl, rfl⟩
    have g3 := st.os
    obtain ⟨h3, gg, dd, tt, oo⟩ := s3
    dsimp only at g1 g2 g3
    subst g1 g2 g3
    rfl
  · intro a5 h5 tk5 gs hgb ha5 hsz5 hk5 W hat
    dsimp only at ha5 hk5 W hat ⊢
    have hL : passing (fun _ => true) xs.toArray.size 0 = List.range rows.length := by simp [passing, hlen]
    rw [hL] at W
    refine spliced_nil ⟨fun c o q => hk5 c o (kin' c o q), ?_⟩
    have W2 := W.in4_2
    refine SC.joinGen W2 (fun i s' st => st.1.typeIs) hat ?_ List.mem_cons_self (fun j v hv => ?_) (fun s' l hm hacc => ?_) ?_
    · intro c hc
      show c < h5.objs.size
      rw [hsz5]
      cases hc with
      | head => exact Nat.lt_succ_self _
      | tail _ hc =>
        cases hc with
        | head => exact Nat.lt_succ_of_lt ha5
        | tail _ hc => exact Nat.lt_succ_of_lt (Nat.lt_trans (List.mem_range.mp hc) ha5)
    · obtain ⟨i, _, t, rfl⟩ := hv; exact ⟨_, _, rfl⟩
    · have hl2 : l.map (·.1) = rows.map wr := by
        apply List.ext_getElem?
        intro j
        have hz : l.length = rows.length := by have := hacc.1; simpa [strValues] using this
        by_cases hj : j < rows.length
        · have hj' : j < l.length := hz ▸ hj
          obtain ⟨i, hi, u, hv⟩ := hacc.2 j (.str l[j].1 l[j].2) (by simp [strValues, List.getElem?_eq_getElem hj'])
          have hij : i = j := by simpa [List.getElem?_range hj] using hi.symm
          subst hij
          injection hv with q1 _
          rw [List.getElem?_map, List.getElem?_map, List.getElem?_eq_getElem hj', List.getElem?_eq_getElem hj]
          rw [List.getD_eq_getElem?_getD, List.getElem?_eq_getElem hj] at q1
          simpa using q1
        · rw [List.getElem?_eq_none (by rw [List.length_map, hz]; exact Nat.le_of_not_lt hj), List.getElem?_eq_none (by rw [List.length_map]; exact Nat.le_of_not_lt hj)]
      rw [hl2]
      have hwr : ∀ y ∈ rows.map wr, y.length ≤ 5000 := fun y hy => by
        obtain ⟨r, hr', rfl⟩ := List.mem_map.mp hy
        have ro := rowOk_of ⟨(hr r hr').1, (hr r hr').2.1⟩
        exact wr_le ⟨ro.len, ro.short⟩
      refine ⟨joinOk_of (join_fit (n := 15) hwr (by rw [List.length_map]; exact hn) (by decide +kernel)), fun t' k => ?_⟩
      have hT5 : s'.heap.get? 873 = some (tabO (#[] ++ #[rawInt (859 : Nat), rawInt (20 : Nat), .ref c'])) := hm.heap _ _ (fun z => by
        rcases List.mem_cons.mp z with z | z
        · have : (873 : Nat) = h'.objs.size := z
          omega
        · have : (873 : Nat) = s.heap.objs.size := List.mem_singleton.mp z
          omega) (hk5 _ _ htab'.2)
      refine S.step (cs₀ := [TAB 873 #[]]) (cs₁ := [TAB 873 (#[] ++ #[rawInt (859 : Nat), rawInt (20 : Nat), .ref c'])]) (rest := []) (stp_of ⟨fun g => ?_, ?_, fun c o q hc => ?_⟩ (one_mem ⟨⟨_, hT5, rfl⟩, fun x hx => .inl (mem_feet.mpr ⟨_, .head _, hx⟩)⟩) (List.pairwise_singleton _ _)) (Out.all ⟨_, t', rfl, rfl⟩)
      · have g0 : AllBare (s.gens.push gs) := AllBare.push g hgb
        have z := AllBare.movedS (s' := s') (s := { heap := h5, gens := s.gens.push gs, drawn := s.drawn, toks := tk5, os := s.os }) g0 hm
        exact z
      · exact hm.os
      · have hc3 : c ≠ 873 := fun z => hc (mem_feet.mpr ⟨_, .head _, z ▸ .head _⟩)
        refine hm.heap c o (fun z => ?_) (hk5 c o (up c o hc3 q))
        have hlt' := Heap.lt_size q
        cases z with
        | head => exact absurd hlt' (Nat.not_lt.mpr (Nat.le_of_lt sz'))
        | tail _ z => exact absurd hlt' (by rw [List.mem_singleton.mp z]; exact Nat.lt_irrefl _)
    · rw [List.length_range]; exact Nat.le_trans hn (by decide)
end
end
section
open PySem PySem.W PyProof.Rows PySem.Calls
section
noncomputable abbrev ksSIO : List Str := ["_StringIO__newline", "_StringIO__buf", "_StringIO__pos"]
theorem cok_SIO (w : World) : ClsOk (KT w) 724 ksSIO := clsOk_of (by kernel_rfl!)
noncomputable abbrev ns_sioCheck : List Str := ["self"]
theorem ok_sioCheck (w : World) : FnOk (KT w) 508 fd_sioCheck ns_sioCheck [] := fnOk_of (at_sioCheck w) (by kernel_rfl!)
theorem sp_sioCheck (w : World) (x dx : Addr) (nl bf : Str) (tn tb tp : Tok) (ps : Int) : Spec w (KT w) 1 (.ref 508) ⟨[.ref x], []⟩ (fun _ => True) [INS 724 ksSIO x dx [some (.str nl tn), some (.str bf tb), some (.int ps tp)]] (fun v cs => ∃ c, (v = .none ∧ c = INS 724 ksSIO x dx [some (.str nl tn), some (.str bf tb), some (.int ps tp)]) ∧ cs = [c]) := by
  refine Spec.of_body (ok_sioCheck w) (by decide +kernel) rfl (binds := [("self", .ref x)]) (fun s _ _ => BindsTo.of_eq (by kernel_rfl!)) (locs (by kernel_rfl!)) (vs₀ := [some (.ref x)]) ⟨rfl, trivial⟩ ?_
  intro gp A b hA T hB
  refine letG ?_
  intro fm Q0
  refine G_cons ?_
  cell_end 5 0 0
  refine G_get (cok_SIO w) (insAt (by cell_end 7 0 0)) (by cell_end 2 0 0) rfl ?_
  cell_end 5 0 0
  try refine G_is rfl ?_
  try refine G_truthy_bool (bif_f ?_)
  cell_end 5 0 0
  exact ⟨[_], [], .refl _, _, ⟨rfl, rfl⟩, rfl⟩
noncomputable abbrev ns_index : List Str := ["n", "what"]
noncomputable abbrev gs_index : List (Str × Value) := [("type", .type "type"), ("int", .type "int"), ("bool", .type "bool")]
theorem ok_index (w : World) : FnOk (KT w) 190 fd_index ns_index gs_index := fnOk_of (at_index w) (by kernel_rfl!)
theorem sp_index (w : World) (i : Int) (t : Tok) (what : Value) (h1 : -1000 ≤ i) (h2 : i ≤ 1000) : Spec w (KT w) 1 (.ref 190) ⟨[.int i t, what], []⟩ (fun _ => True) [] (fun v cs => v = .int i t ∧ cs = []) := by
  refine Spec.of_body (ok_index w) (by decide +kernel) rfl (binds := [("n", .int i t), ("what", what)]) (fun s _ _ => BindsTo.of_eq (by kernel_rfl!)) (locs (by kernel_rfl!)) (vs₀ := [some (.int i t), some what]) ⟨rfl, rfl, trivial⟩ ?_
  intro gp A b hA T hB
  refine letG ?_
  intro fm Q0
  refine G_cons ?_
  cell_end 5 0 0
  refine G_typeI ?_
  cell_end 5 0 0
  try refine G_isNot rfl ?_
  try refine G_truthy_bool (bif_f ?_)
  cell_end 5 0 0
  refine G_intI ?_
  cell_end 5 0 0
  refine G_gtI ?_
  rw [show decide ((1099511627776 : Int) < i) = false from decide_eq_false (by omega)]
  cell_end 5 0 0
  refine G_negI ?_
  intro _
  refine G_ltI ?_
  rw [show decide (i < -(1099511627776 : Int)) = false from decide_eq_false (by omega)]
  cell_end 5 0 0
  exact Out.nil ⟨rfl, rfl⟩
noncomputable abbrev ns_sioRead : List Str := ["self", "size", "start", "stop"]
noncomputable abbrev gs_sioRead : List (Str × Value) := [("_index", .ref 190), ("len", .builtin "len")]
theorem ok_sioRead (w : World) : FnOk (KT w) 670 fd_sioRead ns_sioRead gs_sioRead := fnOk_of (at_sioRead w) (by kernel_rfl!)
noncomputable abbrev SIO (x dx : Addr) (nl bf : Str) (tn tb tp : Tok) (ps : Nat) : HP := INS 724 ksSIO x dx [some (.str nl tn), some (.str bf tb), some (.int ps tp)]
theorem dflt663 (w : World) : (KT w).lookup 663 = some (ob663 w.params) := by kernel_rfl!
theorem sp_sioRead (w : World) (x dx : Addr) (nl bf : Str) (tn tb tp t1 : Tok) (ps : Nat) (hb : bf.length ≤ 1000000) : Spec w (KT w) 2 (.ref 670) ⟨[.ref x, .int 1 t1], []⟩ (fun _ => True) [SIO x dx nl bf tn tb tp ps]
    (fun v cs => E2 fun tp' t' => cs = [SIO x dx nl bf tn tb tp' (if ps < bf.length then ps + 1 else ps)] ∧ v = .str (if ps < bf.length then Txt.slice bf (some ps) (some (ps + 1 : Nat)) else "") t') := by
  refine Spec.of_body (ok_sioRead w) (by decide +kernel) rfl (binds := [("self", .ref x), ("size", .int 1 t1)]) (fun s T _ => BindsTo.of_defaults (T := 663) rfl (T.kin _ _ (dflt663 w)) rfl rfl (by kernel_rfl!)) (locs (by kernel_rfl!)) (vs₀ := [some (.ref x), some (.int 1 t1), none, none]) ⟨rfl, rfl, trivial⟩ ?_
  intro gp A b hA T hB
  refine letG ?_
  intro fm Q0
  refine G_cons ?_
  cell_end 5 0 0
  try refine G_is rfl ?_
  try refine G_truthy_bool (bif_f ?_)
  cell_end 5 0 0
  refine G_callWith (keeps_top (by kernel_rfl!)) ?_ (by k_dflt rfl)
  cell_end 5 0 0
  refine G_call0 (sp_index w 1 _ _ (by decide) (by decide)) hA (fun _ _ => trivial) ?_
  rintro v rfl
  cell_end 5 0 0
  refine G_methI (cok_SIO w) (f := 508) (by kernel_rfl!) (by kernel_rfl!) (by decide +kernel) ?_ (by rfl)
  cell_end 1 0 0
  refine ⟨x, dx, _, rfl, insAt (by cell_end 7 0 0), ?_⟩
  refine G_callWith0 (keeps_top (by kernel_rfl!)) ?_
  refine G_call1 (sp_sioCheck w x dx nl bf tn tb tp ps) (hA.le (by decide)) (fun _ _ => trivial) ?_
  rintro v c ⟨rfl, rfl⟩
  refine ⟨fun _ q => (nomatch q), ?_⟩
  cell_end 5 0 0
  refine G_get (cok_SIO w) (insAt (by cell_end 7 0 0)) (by cell_end 2 0 0) rfl ?_
  cell_end 5 0 0
  refine G_get (cok_SIO w) (insAt (by cell_end 7 0 0)) (by cell_end 2 0 0) rfl ?_
  cell_end 5 0 0
  refine G_lenS hb ?_
  intro _
  cell_end 5 0 0
  refine G_geI ?_
  refine G_truthy_bool ?_
  refine bif_s (fun h1 => ?_) (fun h1 => ?_)
  · have hp : ¬ ps < bf.length := by have := of_decide_eq_true h1; omega
    cell_end 5 0 0
    exact ⟨[_], [], .refl _, tp, _, by rw [if_neg hp], by rw [if_neg hp]⟩
  · have hp : ps < bf.length := by have := of_decide_eq_false h1; omega
    cell_end 1 0 0
    cell_end 1 0 0
    let R1 : Vals → List HP → Prop := fun vs cs => ∃ tp', vs = [some (.ref x), some (.int 1 t1), some (.int ps tp), some (.int ((ps + 1 : Nat) : Int) tp')] ∧ cs = [SIO x dx nl bf tn tb tp ps]
    refine G_mid R1 ?_ ?_
    · cell_end 5 0 0
      refine G_geI ?_
      try refine G_truthy_bool (bif_t ?_)
      cell_end 5 0 0
      refine G_addI ?_
      intro _
      cell_end 5 0 0
      refine G_ltI ?_
      refine G_truthy_bool ?_
      refine bif_s (fun h2 => ?_) (fun h2 => ?_)
      · cell_end 5 0 0
        refine G_addI ?_
        intro _
        cell_end 5 0 0
        exact ⟨rfl, _, rfl, rfl⟩
      · have : bf.length = ps + 1 := by have := of_decide_eq_false h2; omega
        cell_end 5 0 0
        exact ⟨rfl, _, by rw [this], rfl⟩
    · rintro _ _ ⟨tp', rfl, rfl⟩
      cell_end 5 0 0
      refine G_set (cok_SIO w) (by cell_end 3 0 0) ?_
      cell_end 1 0 0
      cell_end 1 0 0
      cell_end 1 0 0
      refine G_SubSlT ?_
      cell_end 5 0 0
      refine G_get (cok_SIO w) (insAt (by cell_end 7 0 0)) (by cell_end 2 0 0) rfl ?_
      cell_end 5 0 0
      refine ⟨bf, tb, ps, _, _, _, rfl, rfl, rfl, szl hb, fun t' => ?_⟩
      exact ⟨[_], [], .refl _, tp', t', by rw [if_pos hp], by rw [if_pos hp]⟩
end
end
section
open PySem PySem.W PyProof.Rows PySem.Calls
section
noncomputable abbrev ns_sioTrans : List Str := ["self", "s", "newline"]
theorem ok_sioTrans (w : World) : FnOk (KT w) 501 fd_sioTrans ns_sioTrans [] := fnOk_of (at_sioTrans w) (by kernel_rfl!)
theorem sp_sioTrans (w : World) (x dx : Addr) (v : Value) (tn : Tok) (bo po : Option Value) : Spec w (KT w) 1 (.ref 501) ⟨[.ref x, v], []⟩ (fun _ => True) [INS 724 ksSIO x dx [some (.str "\n" tn), bo, po]] (fun r cs => ∃ c, (r = v ∧ c = INS 724 ksSIO x dx [some (.str "\n" tn), bo, po]) ∧ cs = [c]) := by
  refine Spec.of_body (ok_sioTrans w) (by decide +kernel) rfl (binds := [("self", .ref x), ("s", v)]) (fun s _ _ => BindsTo.of_eq (by kernel_rfl!)) (locs (by kernel_rfl!)) (vs₀ := [some (.ref x), some v, none]) ⟨rfl, rfl, trivial⟩ ?_
  intro gp A b hA T hB
  refine letG ?_
  intro fm Q0
  refine G_cons ?_
  cell_end 5 0 0
  refine G_get (cok_SIO w) (insAt (by cell_end 7 0 0)) (by cell_end 2 0 0) rfl ?_
  cell_end 5 0 0
  try refine G_is rfl ?_
  try refine G_truthy_bool (bif_f ?_)
  cell_end 5 0 0
  refine G_eqS ?_
  rw [show ((Str.ofString "\n") == Str.ofString "\r") = false by decide +kernel]
  cell_end 5 0 0
  refine G_eqS ?_
  rw [show ((Str.ofString "\n") == Str.ofString "\r\n") = false by decide +kernel]
  cell_end 5 0 0
  exact ⟨[_], [], .refl _, _, ⟨rfl, rfl⟩, rfl⟩
noncomputable abbrev ns_sioInit : List Str := ["self", "initial_value", "newline"]
noncomputable abbrev gs_sioInit : List (Str × Value) := [("type", .type "type"), ("str", .type "str")]
theorem ok_sioInit (w : World) : FnOk (KT w) 494 fd_sioInit ns_sioInit gs_sioInit := fnOk_of (at_sioInit w) (by kernel_rfl!)
theorem dflt487 (w : World) : (KT w).lookup 487 = some (ob487 w.params) := by kernel_rfl!
theorem sp_sioInit (w : World) (x dx : Addr) (bf : Str) (tb : Tok) : Spec w (KT w) 2 (.ref 494) ⟨[.ref x, .str bf tb], []⟩ (fun _ => True) [INS 724 ksSIO x dx [none, none, none]] (fun v cs => v = .none ∧ ∃ tp, cs = [SIO x dx "\n" bf 950 tb tp 0]) := by
  refine Spec.of_body (ok_sioInit w) (by decide +kernel) rfl (binds := [("self", .ref x), ("initial_value", .str bf tb), ("newline", .str "\n" 950)]) (fun s T _ => BindsTo.of_defaults (T := 487) rfl (T.kin _ _ (dflt487 w)) rfl rfl (by kernel_rfl!)) (locs (by kernel_rfl!)) (vs₀ := [some (.ref x), some (.str bf tb), some (.str "\n" 950)]) ⟨rfl, rfl, rfl, trivial⟩ ?_
  intro gp A b hA T hB
  refine letG ?_
  intro fm Q0
  refine G_cons ?_
  cell_end 5 0 0
  try refine G_isNot rfl ?_
  try refine G_truthy_bool (bif_t ?_)
  cell_end 5 0 0
  refine G_typeS ?_
  cell_end 5 0 0
  try refine G_isNot rfl ?_
  try refine G_truthy_bool (bif_f ?_)
  cell_end 5 0 0
  try refine G_isNot rfl ?_
  try refine G_truthy_bool (bif_t ?_)
  cell_end 5 0 0
  refine G_neS ?_
  rw [show ((Str.ofString "\n") != Str.ofString "") = true by decide +kernel]
  cell_end 5 0 0
  refine G_neS ?_
  rw [show ((Str.ofString "\n") != Str.ofString "\n") = false by decide +kernel]
  cell_end 5 0 0
  try refine G_isNot rfl ?_
  try refine G_truthy_bool (bif_t ?_)
  cell_end 5 0 0
  refine G_typeS ?_
  cell_end 5 0 0
  try refine G_isNot rfl ?_
  try refine G_truthy_bool (bif_f ?_)
  cell_end 5 0 0
  refine G_set (cok_SIO w) (by cell_end 3 0 0) ?_
  cell_end 5 0 0
  refine G_set (cok_SIO w) (by cell_end 3 0 0) ?_
  cell_end 5 0 0
  refine G_set (cok_SIO w) (by cell_end 3 0 0) ?_
  cell_end 5 0 0
  try refine G_isNot rfl ?_
  try refine G_truthy_bool (bif_t ?_)
  cell_end 5 0 0
  refine G_methI (cok_SIO w) (f := 501) (by kernel_rfl!) (by kernel_rfl!) (by decide +kernel) ?_ (by rfl)
  cell_end 1 0 0
  refine ⟨x, dx, _, rfl, insAt (by cell_end 7 0 0), ?_⟩
  refine G_callWith (keeps_top (by kernel_rfl!)) ?_ (by k_dflt rfl)
  cell_end 5 0 0
  refine G_call1 (sp_sioTrans w x dx _ _ _ _) (hA.le (by decide)) (fun _ _ => trivial) ?_
  rintro v c ⟨rfl, rfl⟩
  cell_end 5 0 0
  refine G_set (cok_SIO w) (by cell_end 3 0 0) ?_
  cell_end 5 0 0
  exact ⟨[_], [], .refl _, rfl, _, rfl⟩
end
end
section
open PySem PySem.W PyProof.Rows PySem.Calls Builtin
section
theorem k724 (w : World) : (KT w).lookup 724 = some (ob724 w.params) := by kernel_rfl!
theorem k247 (w : World) : (KT w).lookup 247 = some (ob247 w.params) := by kernel_rfl!
theorem k220 (w : World) : (KT w).lookup 220 = some (ob220 w.params) := by kernel_rfl!
theorem sio_made {M : Model} {w : World} {h : Heap} (X : (KT w).In h) : Looks M h (Bind.madeBy (.ref 724)) none := by
  have h1 := X _ _ (k724 w)
  intro A Q E s k q
  have h1' := k _ _ h1
  have hm : Looks M s.heap (mroOf (.ref 724)) [.ref 724, .ref 247, .ref 220, .type "object"] := ((Looks.ld (part := none) h1').andThen .now).andThen .now
  obtain ⟨hh, g, d, t, os⟩ := s
  unfold Bind.madeBy
  refine wpAny_bind (hm.at ?_)
  rw [List.forIn_cons]
  repeat lk
  exact q
theorem obj_made : Bind.madeBy (.type "object") = pure (some "object.__new__") := by kernel_rfl
theorem sio_base {M : Model} {w : World} {h : Heap} (X : (KT w).In h) : Looks M h (Bind.staticBase (.ref 724)) (.type "object") := by
  have h1 := X _ _ (k724 w)
  have h2 := X _ _ (k247 w)
  have h3 := X _ _ (k220 w)
  intro A Q E s k q
  have h1' := k _ _ h1
  have h2' := k _ _ h2
  have h3' := k _ _ h3
  have hm : Looks M s.heap (mroOf (.ref 724)) [.ref 724, .ref 247, .ref 220, .type "object"] := ((Looks.ld (part := none) h1').andThen .now).andThen .now
  have hk := (sio_made (M := M) (w := w) X).keeps k
  have ho : Looks M s.heap (Bind.madeBy (.type "object")) (some "object.__new__") := Looks.of_pure obj_made
  obtain ⟨hh, g, d, t, os⟩ := s
  unfold Bind.staticBase
  refine wpAny_bind (hm.at ?_)
  rw [List.forIn_cons]
  repeat lk
  exact q
theorem m724 (w : World) : mroIn (KT w) 724 (.type "object") = some true := by kernel_rfl!
theorem m724s (w : World) : mroIn (KT w) 724 (.ref 724) = some true := by kernel_rfl!
theorem c724 (w : World) : ∃ cd, clsIn (KT w) 724 = some cd ∧ cd.abstract = false ∧ cd.hasDel = false := ⟨_, rfl, by kernel_rfl!, by kernel_rfl!⟩
theorem sio_objNew {w : World} {A : Around} {R : Result → Shared → Prop} {h : Heap} {g : Array GenState} {d : Drawn} {t : Nat} {os : OsState} (X : (KT w).In h)
    (hq : R (.ok (.ret (.ref (h.objs.size + 1)))) ⟨(h.push emptyDict).push (instObj 724 h.objs.size), g, d, t, os⟩) : codeAny (MD w) A (.call (.builtin "object.__new__") ⟨[.ref 724], []⟩) R ⟨h, g, d, t, os⟩ := by
  have hC := X _ _ (k724 w)
  have base := sio_base (M := MD w) X
  have made : Looks (MD w) h (Bind.madeBy (.type "object")) (some "object.__new__") := Looks.of_pure obj_made
  have top := looks_mroIn (M := MD w) X (m724 w)
  have F := PySem.F.objNew
  refine codeAny_call_builtin_code (Code.quiet_builtin _ F.quiet) ?_
  simp only [checkBuiltinCall, F.kind, F.split, F.row]
  have here : Looks (MD w) h (Bind.madeHere "object.__new__" (.ref 724)) () := base.andThen (made.andThen (Looks.of_pure (by simp only [Option.map_some, bne_self_eq_false, Bool.false_eq_true, if_false])))
  have args : Bind.checkArgs "object.__new__" ⟨.hand, "object.__new__", "__new__", .cls, []⟩ ⟨[.ref 724], []⟩ = pure () := by kernel_rfl
  rw [args]
  have fin : ∀ A', wpAny (MD w) A' (do
      let d ← if typeHasDict (.ref 724) then some <$> alloc { cls := .type "dict", data := .dict #[] } else pure none
      ret (← newObj (.ref 724) .plain d)) (fun fin s' => match fin with | .done f => R (.ok f) s' | .again c' => c'.quiet = true ∧ codeAny (MD w) A c' R s') (fun e s' => R (.error e) s') ⟨h, g, d, t, os⟩ := by
    intro A'
    show wpAny _ _ ((alloc emptyDict >>= fun x => pure (some x)) >>= _) _ _ _
    refine wpAny_bind (wpAny_bind (wpAny_alloc (wpAny_pure (wpAny_bind ?_))))
    show wpAny _ _ (newObjAsIs _ _ _) _ _ _
    unfold newObjAsIs classHasDel
    refine wpAny_bind (wpAny_alloc (wpAny_bind (wpAny_bind (wpAny_load (Heap.get?_push_of_some _ (Heap.get?_push_of_some _ hC)) (wpAny_pure ?_)))))
    refine wpAny_pure (wpAny_pure ?_)
    show R _ _
    rw [Heap.size_push]
    exact hq
  repeat (first | simp only [bne_self_eq_false, Bool.false_eq_true, if_false] | lk)
  refine codeAny_builtin F.entry ?_
  unfold Builtin.«object.__new__»
  repeat (first | simp only [Bool.false_eq_true, if_false] | exact fin _ | lk)
end
end
section
open PySem PySem.W PyProof.Rows PySem.Calls
section
theorem Stp.trans {gp : GP} {F fr : List Addr} {cs₁ cs₂ : List HP} {s s1 s2 : Shared} (a : Stp gp F fr cs₁ s s1) (b : Stp gp (feet cs₁) fr cs₂ s1 s2) (hsz : s.heap.objs.size ≤ s1.heap.objs.size) : Stp gp F fr cs₂ s s2 := by
  refine ⟨fun g => b.gens (a.gens g), b.os.trans a.os, fun x o e q q' => b.ext x o (a.ext x o e q q') (fun z => ?_) q', fun x o e q q' => ?_, fun c hc => ⟨(b.own c hc).1, fun x hx => ?_⟩, b.apart⟩
  · obtain ⟨c, hc, hx⟩ := mem_feet.mp z
    exact ((a.own c hc).2 x hx).elim q fun y => absurd (Heap.lt_size e) (Nat.not_lt.mpr y)
  · obtain ⟨sl, h1⟩ := a.frs x o e q q'
    obtain ⟨sl', h2⟩ := b.frs x _ h1 q fun z => by
      obtain ⟨c, hc, hx⟩ := mem_feet.mp z
      exact ((a.own c hc).2 x hx).elim q' fun y => absurd (Heap.lt_size e) (Nat.not_lt.mpr y)
    exact ⟨sl', h2⟩
  · rcases (b.own c hc).2 x hx with z | z
    · obtain ⟨d, hd, hy⟩ := mem_feet.mp z
      exact (a.own d hd).2 x hy
    · exact .inr (Nat.le_trans hsz z)
/-- the heap without some of its addresses -/
theorem without : ∀ (fr : List Addr) (h : Heap), ∃ b : Heap, A3 (∀ a ∈ fr, b.get? a = none) (∀ a, a ∉ fr → b.get? a = h.get? a) (b.objs.size = h.objs.size)
  | [], h => ⟨h, fun _ q => (nomatch q), fun _ _ => rfl, rfl⟩
  | L :: fr, h => by
    obtain ⟨b, b1, b2, b3⟩ := without fr h
    cases hL : b.get? L with
    | none =>
      refine ⟨b, fun a ha => ?_, fun a ha => b2 a fun q => ha (.tail _ q), b3⟩
      cases ha with
      | head => exact hL
      | tail _ q => exact b1 a q
    | some o =>
      refine ⟨b.update L fun o => { o with data := .freed }, fun a ha => ?_, fun a ha => ?_, (Heap.size_after_update ..).trans b3⟩
      · by_cases hq : a = L
        · subst hq
          obtain ⟨e1, _⟩ := Heap.get?_some_iff.mp hL
          cases hx : (b.update a fun o => { o with data := .freed }).get? a with
          | none => rfl
          | some o' =>
            obtain ⟨f1, f2⟩ := Heap.get?_some_iff.mp hx
            exfalso
            have : (b.update a fun o => { o with data := .freed }).objs[a]? = some { o with data := .freed } := by
              cases b; simp only [Heap.update, Array.getElem?_modify, if_true]; simp only at e1; rw [e1]; rfl
            rw [this] at f1; cases f1; cases f2
        · rw [Heap.get?_update_other _ _ (fun q => hq q.symm)]
          cases ha with
          | head => exact absurd rfl hq
          | tail _ q => exact b1 a q
      · rw [Heap.get?_update_other _ _ (fun q : L = a => ha (by rw [q]; exact .head _))]
        exact b2 a fun q => ha (.tail _ q)
theorem bv_ioNew (w : World) (v : Value) : BindsV (KT w) fd_ioNew ⟨[.ref 724, v], []⟩ (fun _ => True) (fun D => [("cls", .ref 724), ("args", .ref D), ("kwargs", .ref (D + 1))]) (fun D => []) := fun M A E Q s T hB k => by
  have e : bindArgs fd_ioNew ⟨[.ref 724, v], []⟩ = newTuple [v] >>= fun t => alloc emptyDict >>= fun d => pure ([("cls", .ref 724), ("args", t), ("kwargs", .ref d)] : List (Str × Value)) := by kernel_rfl!
  rw [e]
  refine wpAny_bind (wpAny_newTuple (wpAny_bind (wpAny_alloc (wpAny_pure ?_))) (szl (Nat.le_of_ble_eq_true rfl)))
  have := k s.heap.objs.size ((s.heap.push { cls := .type "tuple", data := .seq [v].toArray }).push emptyDict) s.toks (fun _ _ e => Heap.get?_push_of_some _ (Heap.get?_push_of_some _ e)) (by rw [Heap.size_push, Heap.size_push]; omega) (fun _ q => (nomatch q)) List.Pairwise.nil
  dsimp only [Heap.size_push] at this ⊢
  rw [Heap.size_push]
  exact this
theorem k477 (w : World) : (KT w).lookup 477 = some (ob477 w.params) := by kernel_rfl!
theorem G_isNotR {w : World} {A : Around} {fm : Fm} {vs : Vals} {cs : List HP} {E : Value → Vals → List HP → Prop} {x y : Addr} {ox oy : Obj} {Q : Value → Vals → List HP → Prop} (hxy : x ≠ y) (hx : fm.K.lookup x = some ox) (hy : fm.K.lookup y = some oy) (hn : ox.cls ≠ .type "tuple") (h : Q (.bool true) vs cs) :
    G w A fm (compareOp .IsNot (.ref x) (.ref y)) Q E vs cs := fun s S => wpAny_isNot_ref_other hxy (S.top.kin _ _ hx) (S.top.kin _ _ hy) hn ⟨vs, cs, S, h⟩
theorem G_isNotS {w : World} {A : Around} {fm : Fm} {vs : Vals} {cs : List HP} {E : Value → Vals → List HP → Prop} {x : Addr} {Q : Value → Vals → List HP → Prop} (h : Q (.bool false) vs cs) :
    G w A fm (compareOp .IsNot (.ref x) (.ref x)) Q E vs cs := fun s S => wpAny_isNot_ref_self ⟨vs, cs, S, h⟩
noncomputable abbrev ns_ioNew : List Str := ["cls", "args", "kwargs"]
noncomputable abbrev gs_ioNew : List (Str × Value) := [("BytesIO", .ref 477), ("StringIO", .ref 724), ("object", .type "object")]
theorem ok_ioNew (w : World) : FnOk (KT w) 217 fd_ioNew ns_ioNew gs_ioNew := fnOk_of (at_ioNew w) (by kernel_rfl!)
theorem fc_objNew (w : World) : findCls (KT w) (.type "object") (.type "type") "__new__" = some (.val (.builtin "object.__new__")) := by kernel_rfl!
theorem ty_object : typeOf (.type "object") = pure (.type "type") := by kernel_rfl
theorem st_object : Manifest.isStub "object" = false := by decide +kernel
theorem G_objNew {w : World} {A : Around} {fm : Fm} {vs : Vals} {cs : List HP} {E : Value → Vals → List HP → Prop} {pl : Sem Bool} {Q : Value × List Value → Vals → List HP → Prop} (hK : fm.K = KT w) (hF : fm.F = []) (h : Q (.builtin "object.__new__", []) vs cs) :
    G w A fm (getMethod (.type "object") "__new__" pl) Q E vs cs := fun s S => by
  obtain ⟨m, n, a⟩ := S.loc
  have X : (KT w).In fm.b.heap := hK ▸ S.fok.top.kin
  obtain ⟨base, b1, b2, b3⟩ := without fm.fr fm.b.heap
  have Fx : Fr base fm.env.locals s.heap m := ⟨n, fun b o e => by
    by_cases hb : b ∈ fm.fr
    · rw [b1 b hb] at e; cases e
    · exact S.ext b o ((b2 b hb) ▸ e) (by rw [hF]; exact fun q => (nomatch q)) hb, by rw [b3]; exact S.fok.base⟩
  have X : (KT w).In base := fun a o q => (b2 a fun hb => by
    have hz := X a o q
    obtain ⟨⟨z, _⟩, _⟩ := S.fok.kFr a hb (Nat.ne_of_lt (Nat.lt_of_lt_of_le (Heap.lt_size hz) S.fok.base))
    rw [hK, q] at z; cases z).trans (X a o q)
  refine method_type (K := KT w) (T := "object") (v := .builtin "object.__new__") Fx X ty_object st_object (fc_objNew w) rfl ?_
  exact ⟨vs, cs, S.toks _, h⟩
theorem sp_ioNew (w : World) (v : Value) : Spec w (KT w) 2 (.ref 217) ⟨[.ref 724, v], []⟩ (fun _ => True) [] (fun v cs => E2 fun x dx => v = .ref x ∧ cs = [INS 724 ksSIO x dx [none, none, none]]) := by
  intro gp
  refine SpecP.of_bodyV (ok_ioNew w) (by decide +kernel) rfl (bv_ioNew w v) (fun D => locs (by kernel_rfl!)) (vs₀ := fun D => [some (.ref 724), some (.ref D), some (.ref (D + 1))]) (fun D => ⟨rfl, rfl, rfl, trivial⟩) ?_
  intro A b L D hA T hB
  refine letG ?_
  intro fm Q0
  refine G_cons ?_
  cell_end 5 0 0
  refine G_isNotR (by decide) (k724 w) (k477 w) (by intro q; injection q with q; exact absurd q (by decide)) ?_
  try refine G_truthy_bool (bif_t ?_)
  cell_end 5 0 0
  refine G_isNotS ?_
  try refine G_truthy_bool (bif_f ?_)
  cell_end 5 0 0
  refine G_Meth ?_ (by rfl)
  cell_end 1 0 0
  refine G_objNew rfl rfl ?_
  cell_end 5 0 0
  intro s S
  refine wpAny_call ?_
  have sz := S.blt
  obtain ⟨hh, g, d, t, os⟩ := s
  refine sio_objNew S.top.kin ?_
  refine ⟨_, [INS 724 ksSIO (hh.objs.size + 1) hh.objs.size [none, none, none]], S.grow1 (t := t) (fun _ _ e => Heap.get?_push_of_some _ (Heap.get?_push_of_some _ e)) ⟨Nat.succ_ne_self _, ?_, [], 0, Heap.get?_push_of_some _ (Heap.get?_push_size _ rfl), ents_nil (n := 3) (by decide)⟩ (fun a ha => ?_), Thn_ret (Out.all ⟨_, _, rfl, rfl⟩)⟩
  · have := Heap.get?_push_size (hh.push emptyDict) (o := instObj 724 hh.objs.size) rfl
    rw [Heap.size_push] at this; exact this
  · cases ha with
    | head => exact Nat.le_succ _
    | tail _ ha => cases List.mem_singleton.mp ha; exact Nat.le_refl _
theorem reads724 (w : World) : readsIn (KT w) 724 (.type "type") = true := by kernel_rfl!
theorem fc_new (w : World) : findCls (KT w) (.ref 724) (.type "type") "__new__" = some (.get (.builtin "staticmethod.__get__") (.ref 221) .none (.ref 724)) := by kernel_rfl!
theorem rec221 (w : World) : recIn (KT w) 221 "staticmethod" = some [.ref 217] := by kernel_rfl!
theorem call724 (w : World) : specialIn (KT w) (.ref 724) "__call__" = some (some (.builtin "type.__call__")) := by kernel_rfl!
theorem inst724 (w : World) : instIn (KT w) (.ref 724) (.type "type") = some true := by kernel_rfl!
theorem init724 (w : World) : findIn (KT w) (.ref 724) "__init__" = some (some (.ref 494)) := by kernel_rfl!
theorem fn494 (w : World) : isFn (KT w) (.ref 494) = true := by kernel_rfl!
theorem sp_mkSIO (w : World) (bf : Str) (tb : Tok) : Spec w (KT w) 3 (.ref 724) ⟨[.str bf tb], []⟩ (fun _ => True) [] (fun v cs => E3 fun x dx tp => v = .ref x ∧ cs = [SIO x dx "\n" bf 950 tb tp 0]) := by
  intro gp A s hA T hH hG hB O
  have X := T.kin
  have hC := X _ _ (k724 w)
  have call := looks_specialIn (M := MD w) X (call724 w)
  have typ := looks_instIn (M := MD w) X (inst724 w)
  have made := sio_made (M := MD w) X
  have hm : Looks (MD w) s.heap (mroOf (.ref 724)) [.ref 724, .ref 247, .ref 220, .type "object"] := ((Looks.ld (part := none) hC).andThen .now).andThen .now
  have e4 : ([.ref 724, .ref 247, .ref 220, .type "object"] : List Value).isEmpty = false := rfl
  refine codeAny_of_tree ?_
  show wpAny _ _ (callAny (.ref 724) _) _ _ _
  refine nd_load hC ?_
  show wpAny _ _ (callAny.viaDunder (.ref 724) _) _ _ _
  unfold callAny.viaDunder
  refine wpAny_bind (call.here ?_)
  dsimp only
  rw [tc_bind]
  refine wpAny_bind (wpAny_pure (wpAny_bind (wpAny_pure ?_)))
  refine wpAny_pure (a := Fin.again (.call (.builtin "type.__call__") ⟨[.ref 724, .str bf tb], []⟩)) (And.intro rfl ?_)
  refine codeAny_call_builtin_at (Code.quiet_builtin _ (by decide +kernel)) entry_typeCall (check_slot tc_kind tc_split typ (tc_args _ _ _) ?_)
  have rm : Rm (A.under (.builtin "type.__call__" ⟨[.ref 724, .str bf tb], []⟩)) 2 := hA.underB (Nat.le_of_ble_eq_true (by kernel_rfl!)) (Nat.le_of_ble_eq_true (by kernel_rfl!))
  have hA' : frOf A = frOf (A.under (.builtin "type.__call__" ⟨[.ref 724, .str bf tb], []⟩)) := rfl
  generalize A.under (.builtin "type.__call__" ⟨[.ref 724, .str bf tb], []⟩) = A' at rm hA' ⊢
  unfold Builtin.«type.__call__»
  obtain ⟨hh, g, d, t, os⟩ := s
  repeat (first | simp only [e4, Bool.false_eq_true, if_false] | with_reducible refine cls_bind X (reads724 w) (fc_new w) ?_ | with_reducible refine wpAny_call ?_ | lk)
  refine sm_get (C := 724) X (rec221 w) (handed_on rfl ?_)
  refine wpAny_bind (wpAny_holding (wpAny_call ?_))
  refine codeAny_mono (sp_ioNew w (.str bf tb) gp A' _ rm T (hA' ▸ hH) hG trivial ⟨fun _ q => (nomatch q), List.Pairwise.nil⟩) ?_
  rintro r s1 ⟨v, cs1, rfl, st, x, dx, rfl, rfl⟩
  have T1 : TP (KT w) s1.heap := T.lift (F := frOf A') (fun a ha => ((hA' ▸ hH) a ha).1) fun b o e hb => st.ext b o e (fun q => (nomatch q)) hb
  have X1 := T1.kin
  have ins := (st.own _ (.head _)).1
  obtain ⟨hne, hx, es, n, hd, en⟩ := ins
  have t1 : Looks (MD w) s1.heap (typeOf (.ref x)) (.ref 724) := (Looks.ld hx).andThen .now
  have s1' := looks_mroIn (M := MD w) X1 (m724s w)
  have i1 := looks_findIn (M := MD w) X1 (init724 w)
  have b1 := bind_fn (M := MD w) X1 (.ref x) (beq_iff_eq.mp (fn494 w))
  have gg := st.gens hG
  obtain ⟨h1, g1, d1, t1', os1⟩ := s1
  unfold isInstance callSpecial? specialOf
  repeat (first | with_reducible refine wpAny_call ?_ | lk)
  have H1 : FrH (KT w) (frOf A') h1 := fun a ha => by
    obtain ⟨hz, o, es, ep, ho, hd'⟩ := (hA' ▸ hH : FrH (KT w) (frOf A') hh) a ha
    obtain ⟨sl, hs⟩ := st.frs a o ho ha (fun q => (nomatch q))
    exact ⟨hz, _, es, ep, hs, hd'⟩
  have O1 : Own (KT w) (frOf A') [INS 724 ksSIO x dx [none, none, none]] h1 := ⟨fun c hc => ⟨(st.own c hc).1, fun a ha => have hz := ((st.own c hc).2 a ha).elim (fun q => (nomatch q)) id; ⟨T.free hz, fun q => by obtain ⟨_, o, _, _, ho, _⟩ := (hA' ▸ hH : FrH (KT w) (frOf A') hh) a q; exact absurd (Heap.lt_size ho) (Nat.not_lt.mpr hz)⟩⟩, st.apart⟩
  refine codeAny_mono (sp_sioInit w x dx bf tb gp A' ⟨h1, g1, d1, t1', os1⟩ rm T1 H1 gg trivial O1) ?_
  rintro r s2 ⟨v, cs2, rfl, st2, rfl, tp, rfl⟩
  refine wpAny_pure (wpAny_pure ?_)
  have hsz : hh.objs.size ≤ h1.objs.size := Nat.le_of_lt (Nat.lt_of_le_of_lt (((st.own _ (.head _)).2 x (.head _)).elim (fun q => (nomatch q)) id) (Heap.lt_size hx))
  have stt : Stp gp (feet []) (frOf A') [INS 724 ksSIO x dx [none, none, none]] ⟨hh, g, d, t, os⟩ ⟨h1, g1, d1, t1', os1⟩ := ⟨st.gens, st.os, st.ext, st.frs, st.own, st.apart⟩
  exact ⟨_, _, rfl, hA' ▸ stt.trans st2 hsz, x, dx, tp, rfl, rfl⟩
end
end
section
open PySem PySem.W PyProof.Rows PySem.Calls Builtin
section
noncomputable abbrev dqT : String := "collections.deque"
noncomputable abbrev dqO : Obj := { cls := .type "collections.deque", data := .fields #[.none, rawInt 0] }
theorem mro_dq : mroOf (.type "collections.deque") = pure [.type "collections.deque", .type "object"] := by rw [mroOf_type]; kernel_rfl
theorem lookup_dq_new : typeLookup (.type "collections.deque") "__new__" = pure (some (.builtin "collections.deque.__new__")) := by rw [typeLookup_type, builtinLookup_eq_fast]; kernel_rfl
theorem slot_dq_init : Slot "collections.deque" "__init__" "collections.deque.__init__" :=
  .of (owner := "collections.deque") (n := "__init__") (by rw [typeLookup_type, builtinLookup_eq_fast]; kernel_rfl) (by decide +kernel) (by decide +kernel) (by decide +kernel)
    (by first | exact .inl (by decide +kernel) | exact .inr (by decide +kernel)) (by rw [isSubtype_type]; kernel_rfl)
theorem slot_dq_len : Slot "collections.deque" "__len__" "collections.deque.__len__" :=
  .of (owner := "collections.deque") (n := "__len__") (by rw [typeLookup_type, builtinLookup_eq_fast]; kernel_rfl) (by decide +kernel) (by decide +kernel) (by decide +kernel)
    (by first | exact .inl (by decide +kernel) | exact .inr (by decide +kernel)) (by rw [isSubtype_type]; kernel_rfl)
theorem sub_dq : isSubtype (.type "collections.deque") (.type "collections.deque") = pure true := by rw [isSubtype_type]; kernel_rfl
theorem called_dq : TypeCalled "collections.deque" "collections.deque.__new__" "collections.deque.__init__" :=
  ⟨by decide +kernel, by decide +kernel, ⟨_, _, mro_dq⟩, madeBy_type mro_dq lookup_dq_new (by decide +kernel), by decide +kernel, sub_dq, slot_dq_init⟩
theorem typeCall_dq : checkTypeCall "collections.deque" ⟨[], []⟩ = pure () := by kernel_rfl
theorem newCall_dq : checkBuiltinCall "collections.deque.__new__" ⟨[.type "collections.deque"], []⟩ = pure () := by kernel_rfl
theorem entry_dq_new : entryFor table "collections.deque.__new__" = some Builtin.«collections.deque.__new__» := entryFor_of_tree (by kernel_rfl)
theorem entry_dq_init : entryFor table "collections.deque.__init__" = some Builtin.«collections.deque.__init__» := entryFor_of_tree (by kernel_rfl)
theorem entry_dq_len : entryFor table "collections.deque.__len__" = some Builtin.«collections.deque.__len__» := entryFor_of_tree (by kernel_rfl)
theorem noBool_dq : typeLookup (.type "collections.deque") "__bool__" = pure none := by rw [typeLookup_type, builtinLookup_eq_fast]; kernel_rfl
theorem args_dq_init (a : Value) : argsOk "collections.deque.__init__" ⟨[a], []⟩ := by unfold argsOk; kernel_rfl
theorem args_dq_len (a : Value) : argsOk "collections.deque.__len__" ⟨[a], []⟩ := by unfold argsOk; kernel_rfl
theorem meets_dq_new : Meets (Builtin.«collections.deque.__new__» ⟨[.type "collections.deque"], []⟩) (fun _ R s => R (.ok (.ret (.ref s.heap.objs.size))) { s with heap := s.heap.push dqO }) :=
  .of_wp fun prog w A R s h => by
    have sb : Looks (model prog w) s.heap (isSubtype (.type "collections.deque") (.type "collections.deque")) true := Looks.of_pure sub_dq
    obtain ⟨hh, g, d, t, os⟩ := s
    unfold Builtin.«collections.deque.__new__» Deque.newArgs Deque.ty
    repeat lk
    exact ⟨_, rfl, h⟩
theorem meets_dq_init (a : Addr) : Meets (Builtin.«collections.deque.__init__» ⟨[.ref a], []⟩) (fun _ R s => s.heap.get? a = some dqO ∧ ∀ h', h'.get? a = some dqO → Heap.SameBut a s.heap h' → R (.ok (.ret .none)) { s with heap := h' }) :=
  .of_wp fun prog w A R s ⟨h0, h⟩ => by
    have hu : (s.heap.update a (Obj.mapFields fun x => x.setIfInBounds 0 Value.none)).get? a = some dqO := Heap.get?_update_self _ h0 rfl
    have hsb : Heap.SameBut a s.heap (s.heap.update a (Obj.mapFields fun x => x.setIfInBounds 0 Value.none)) := Heap.SameBut.update ..
    have fin := h _ hu hsb
    obtain ⟨hh, g, d, t, os⟩ := s
    unfold Builtin.«collections.deque.__init__»
    repeat lk
    refine wpAny_update h0 ?_
    dsimp only at hu fin ⊢
    generalize hh.update a (Obj.mapFields fun x => x.setIfInBounds 0 Value.none) = h1 at hu fin ⊢
    unfold Deque.clear
    repeat lk
    exact ⟨_, rfl, fin⟩
theorem call_dq {w : World} {A : Around} {E : Value → Shared → Prop} {s : Shared} {Q : Value → Shared → Prop} (h : ∀ h', (∀ b o, s.heap.get? b = some o → h'.get? b = some o) → h'.get? s.heap.objs.size = some dqO → Q (.ref s.heap.objs.size) { s with heap := h' }) : wpAny (MD w) A (call (.type "collections.deque") []) Q E s := by
  refine callType_meets (Q₁ := fun obj s₁ => obj = .ref s.heap.objs.size ∧ s₁ = { s with heap := s.heap.push dqO }) called_dq typeCall_dq newCall_dq entry_dq_new entry_dq_init meets_dq_new ⟨rfl, rfl⟩ ?_
  rintro obj s₁ ⟨rfl, rfl⟩
  have hx : (s.heap.push dqO).get? s.heap.objs.size = some dqO := Heap.get?_push_size _ rfl
  refine ⟨⟨_, hx, rfl⟩, args_dq_init _, _, meets_dq_init _, hx, fun h' h1 sb => ⟨rfl, h h' (fun b o e => ?_) h1⟩⟩
  exact (sb.2 b (Nat.ne_of_lt (Heap.lt_size e))).trans (Heap.get?_push_of_some _ e)
theorem len_dq {prog : Program} {w : World} {A : Around} {E : Value → Shared → Prop} {s : Shared} {a : Addr} {Q : Value → Shared → Prop} (h0 : s.heap.get? a = some dqO) (h : ∀ t tk, Q (.int 0 t) { s with toks := tk }) :
    wpAny (model prog w) A (Builtin.«len» ⟨[.ref a], []⟩) (fun fin s' => ∃ r, fin = .done (.ret r) ∧ Q r s') E s := by
  have hT : s.TypeIs (.ref a) "collections.deque" := ⟨_, h0, rfl⟩
  unfold Builtin.«len»
  refine wpAny_bind (m := oneArg "len" _) (wpAny_pure ?_)
  refine wpAny_bind (m := callSpecial? (.ref a) (Str.ofString "__len__")) (wpAny_callSpecial?_slot (name := Str.ofString "__len__") hT slot_dq_len ?_)
  refine wpAny_call_entry slot_dq_len hT entry_dq_len ?_ (args_dq_len _)
  obtain ⟨hh, g, d, t, os⟩ := s
  unfold Builtin.«collections.deque.__len__» Deque.size
  repeat lk
  refine ⟨_, rfl, ?_⟩
  refine wpAny_bind (wpAny_holding (wpAny_pure ?_))
  refine wpAny_bind (wpAny_letGo ?_)
  show wpAny _ _ (if (0 : Int) < 0 then _ else _) _ _ _
  rw [if_neg (by decide)]
  show wpAny _ _ (if (0 : Int) ≥ 2 ^ 63 then _ else _) _ _ _
  rw [if_neg (by decide)]
  exact wpAny_bind (wpAny_mkInt (wpAny_pure ⟨_, rfl, h _ _⟩))
noncomputable def DQE (a : Addr) : HP := HP.one a fun o => o = dqO
section
variable {w : World} {A : Around} {fm : Fm} {vs : Vals} {cs : List HP} {E : Value → Vals → List HP → Prop}
theorem G_deque {Q : Value → Vals → List HP → Prop} (h : ∀ a, Q (.ref a) vs (DQE a :: cs)) : G w A fm (call (.type "collections.deque") []) Q E vs cs := fun s S =>
  call_dq fun h' hk h1 => ⟨vs, _, S.grow1 (t := s.toks) (c := DQE s.heap.objs.size) hk ⟨_, h1, rfl⟩ (fun b hb => by cases List.mem_singleton.mp hb; exact Nat.le_refl _), h _⟩
theorem G_truthyDq {a : Addr} {Q : Bool → Vals → List HP → Prop} (hm : ∀ s, Sit fm vs cs s → (DQE a).ok s.heap) (h : Q false vs cs) : G w A fm (truthy (.ref a)) Q E vs cs := fun s S => by
  obtain ⟨o, h0, rfl⟩ := hm s S
  have hT : s.TypeIs (.ref a) "collections.deque" := ⟨_, h0, rfl⟩
  have key : wpAny (MD w) A (runValue (.builtin "len" ⟨[.ref a], []⟩)) (fun r s' => (∃ t, r = .int 0 t) ∧ At fm (Q false) s') (fun e => At fm (E e)) s := by
    refine wpAny_runValue (codeAny_builtin entry_len ?_)
    rw [Around.under_plainId plain_len _]
    exact wpAny_mono (len_dq (Q := fun r s' => (∃ t, r = .int 0 t) ∧ At fm (Q false) s') h0 fun t tk => ⟨⟨t, rfl⟩, vs, cs, S.toks _, h⟩) (fun fin s' h' => by obtain ⟨r, rfl, hq⟩ := h'; exact hq) fun _ _ e => e
  unfold truthy
  first
    | refine wpAny_bind (wpAny_callSpecial?_none (name := Str.ofString "__bool__") hT noBool_dq ?_)
    | refine wpAny_bind (wpAny_pure (wpAny_bind (wpAny_callSpecial?_none (name := Str.ofString "__bool__") hT noBool_dq ?_)))
  first
    | refine wpAny_bind (wpAny_specialOf (name := Str.ofString "__len__") hT slot_dq_len.lookup ?_)
    | refine wpAny_bind (wpAny_pure (wpAny_bind (wpAny_specialOf (name := Str.ofString "__len__") hT slot_dq_len.lookup ?_)))
  first
    | exact wpAny_bind (wpAny_mono key (fun r s' h' => by obtain ⟨⟨t, rfl⟩, hq⟩ := h'; exact wpAny_pure hq) fun _ _ e => e)
    | exact wpAny_bind (wpAny_pure (wpAny_bind (wpAny_mono key (fun r s' h' => by obtain ⟨⟨t, rfl⟩, hq⟩ := h'; exact wpAny_pure hq) fun _ _ e => e)))
theorem dqAt {a : Addr} (hm : DQE a ∈ cs) : ∀ s, Sit fm vs cs s → (DQE a).ok s.heap := fun s S => (S.own _ hm).1
end
end
end
section
open PySem PySem.W PyProof.Rows PySem.Calls
section
noncomputable abbrev WC : Str := "abcdfeghijklmnopqrstuvwxyzABCDEFGHIJKLMNOPQRSTUVWXYZ0123456789_" ++ ("ßàáâãäåæçèéêëìíîïðñòóôõöøùúûüýþÿÀÁÂÃÄÅÆÇÈÉÊËÌÍÎÏÐÑÒÓÔÕÖØÙÚÛÜÝÞ" : Str)
structure ShC where
  sx : Addr
  p1 : Addr
  p2 : Addr
  cm : Str
  ws : Bool
  t1 : Tok
  t2 : Tok
  t3 : Tok
  t4 : Tok
  t5 : Tok
  t6 : Tok
  t7 : Tok
  t8 : Tok
  t9 : Tok
/-- a shlex object: its stream, its state, its token -/
noncomputable abbrev SH (c : ShC) (x dx : Addr) (st tok : Value) : HP := INS 859 ksSH x dx [some (.ref c.sx), some .none, some (.bool true), some .none, some (.str c.cm c.t1), some (.str WC c.t2), some (.str " \t\r\n" c.t3), some (.bool c.ws), some (.str "'\"" c.t4), some (.str "\\" c.t5), some (.str "\"" c.t6), some st, some (.ref c.p1), some (.int 1 c.t7), some (.int 0 c.t8), some tok, some (.ref c.p2), some .none, some (.str "" c.t9)]
noncomputable abbrev ns_shInit : List Str := ["self", "instream", "infile", "posix", "punctuation_chars", "t"]
noncomputable abbrev gs_shInit : List (Str × Value) := [("isinstance", .builtin "isinstance"), ("str", .type "str"), ("StringIO", .ref 724), ("deque", .type "collections.deque")]
theorem ok_shInit (w : World) : FnOk (KT w) 783 fd_shInit ns_shInit gs_shInit := fnOk_of (at_shInit w) (by kernel_rfl!)
theorem dflt776 (w : World) : (KT w).lookup 776 = some (ob776 w.params) := by kernel_rfl!
theorem sp_shInit (w : World) (x dx : Addr) (bf : Str) (tb : Tok) : Spec w (KT w) 4 (.ref 783) ⟨[.ref x, .str bf tb], [("posix", .bool true)]⟩ (fun _ => True) [INS 859 ksSH x dx [none, none, none, none, none, none, none, none, none, none, none, none, none, none, none, none, none, none, none]] (fun v cs => v = .none ∧ (E5 fun c sdx t1 t2 tp => c.cm = ("#" : Str) ∧ cs = [SH c x dx (.str " " t1) (.str "" t2), DQE c.p1, DQE c.p2, SIO c.sx sdx "\n" bf 950 tb tp 0])) := by
  refine Spec.of_body (ok_shInit w) (by decide +kernel) rfl (binds := [("self", .ref x), ("instream", .str bf tb), ("infile", .none), ("posix", .bool true), ("punctuation_chars", .bool false)]) (fun s T _ => BindsTo.of_defaults (T := 776) rfl (T.kin _ _ (dflt776 w)) rfl rfl (by kernel_rfl!)) (locs (by kernel_rfl!)) (vs₀ := [some (.ref x), some (.str bf tb), some .none, some (.bool true), some (.bool false), none]) ⟨rfl, rfl, rfl, rfl, rfl, trivial⟩ ?_
  intro gp A b hA T hB
  refine letG ?_
  intro fm Q0
  refine G_cons ?_
  cell_end 5 0 0
  refine G_crN (by kernel_rfl!) ?_ (by k_dflt rfl)
  cell_end 5 0 0
  refine G_spec (cs₀ := []) (rest := [_]) (sp_mkSIO w bf tb) hA (fun _ _ => trivial) ?_
  rintro v cs ⟨sx, sdx, tp, rfl, rfl⟩
  cell_end 1 0 0
  cell_end 1 0 0
  cell_end 1 0 0
  cell_end 1 0 0
  refine G_p1 ?_
  cell_end 5 0 0
  refine G_iaddStr ?_ ?_
  · exact szl (by decide +kernel)
  intro _
  cell_end 5 0 0
  refine G_deque ?_
  intro p1
  cell_end 5 0 0
  refine G_p1 ?_
  cell_end 5 0 0
  refine G_deque ?_
  intro p2
  cell_end 5 0 0
  refine G_p1 ?_
  cell_end 5 0 0
  refine G_truthyS0 ?_ ?_
  · decide +kernel
  cell_end 5 0 0
  exact ⟨[_, DQE p1, DQE p2, _], [], List.Perm.cons _ (.swap _ _ _), rfl, ⟨sx, p1, p2, "#", false, _, _, _, _, _, _, _, _, _⟩, sdx, _, _, tp, rfl, rfl⟩
/-- a shlex object is made -/
theorem mk_SH (w : World) : makesIn (KT w) 859 = true := by kernel_rfl!
theorem in_SH (w : World) : findIn (KT w) (.ref 859) "__init__" = some (some (.ref 783)) := by kernel_rfl!
theorem fn783 (w : World) : isFn (KT w) (.ref 783) = true := by kernel_rfl!
theorem sp_mkSH (w : World) (bf : Str) (tb : Tok) : Spec w (KT w) 5 (.ref 859) ⟨[.str bf tb], [("posix", .bool true)]⟩ (fun _ => True) [] (fun v cs => E2 fun x dx => v = .ref x ∧ (E5 fun c sdx t1 t2 tp => c.cm = ("#" : Str) ∧ cs = [SH c x dx (.str " " t1) (.str "" t2), DQE c.p1, DQE c.p2, SIO c.sx sdx "\n" bf 950 tb tp 0])) := fun gp =>
  SpecP.make (ks := ksSH) (nv := 19) (mk_SH w) (in_SH w) (fn783 w) (by decide) (fun _ _ _ _ => trivial) fun x dx => sp_shInit w x dx bf tb gp
end
end
section
open PySem PySem.W PyProof.Rows PySem.Calls
section
noncomputable abbrev ns_shPunct : List Str := ["self"]
theorem ok_shPunct (w : World) : FnOk (KT w) 790 fd_shPunct ns_shPunct [] := fnOk_of (at_shPunct w) (by kernel_rfl!)
theorem sp_shPunct (w : World) (c : ShC) (x dx : Addr) (st tok : Value) : Spec w (KT w) 1 (.ref 790) ⟨[.ref x], []⟩ (fun _ => True) [SH c x dx st tok] (fun v cs => v = .str "" c.t9 ∧ cs = [SH c x dx st tok]) := by
  refine Spec.of_body (ok_shPunct w) (by decide +kernel) rfl (binds := [("self", .ref x)]) (fun s _ _ => BindsTo.of_eq (by kernel_rfl!)) (locs (by kernel_rfl!)) (vs₀ := [some (.ref x)]) ⟨rfl, trivial⟩ ?_
  intro gp A b hA T hB
  refine letG ?_
  intro fm Q0
  refine G_cons ?_
  cell_end 5 0 0
  exact Out.all ⟨rfl, rfl⟩
theorem pg_SH (w : World) : PropGet (KT w) 859 "punctuation_chars" 791 790 [Value.none, Value.none, Value.none, Value.str ("punctuation_chars") 1314, Value.bool Bool.false] := ⟨by kernel_rfl!, by kernel_rfl!, by kernel_rfl!, by kernel_rfl!, by kernel_rfl!, by kernel_rfl!⟩
theorem G_punct {w : World} {A : Around} {fm : Fm} {vs : Vals} {cs : List HP} {E : Value → Vals → List HP → Prop} {Q : Value → Vals → List HP → Prop} {c : ShC} {x dx : Addr} {st tok : Value} {ex : Bool} (hK : fm.K = KT w) (hA : Rm A 2) (h : Q (.str "" c.t9) vs (SH c x dx st tok :: cs)) (hf : fm.fr = frOf A := by rfl) :
    G w A fm (getAttr (.ref x) "punctuation_chars" ex) Q E vs (SH c x dx st tok :: cs) :=
  G_prop (cs₀ := [SH c x dx st tok]) (more := cs) (hK ▸ pg_SH w) (insAt (.head _)) (hK ▸ sp_shPunct w c x dx st tok) hA (fun _ _ => trivial) (fun v cs₁ ⟨e1, e2⟩ => by subst e1 e2; exact ⟨rfl, h⟩) hf
noncomputable abbrev ns_readToken : List Str := ["self", "quoted", "escapedstate", "nextchar", "result"]
noncomputable abbrev gs_readToken : List (Str × Value) := []
theorem ok_readToken (w : World) : FnOk (KT w) 827 fd_readToken ns_readToken gs_readToken := fnOk_of (at_readToken w) (by kernel_rfl!)
/-- what one call of read_token leaves -/
noncomputable def tokV (acc : List Nat) (q : Bool) (v : Value) : Prop := (q = false ∧ acc = [] ∧ v = .none) ∨ ((q = true ∨ acc ≠ []) ∧ ∃ t, v = .str (tx acc) t)
noncomputable def stV (st : Option Nat) (v : Value) : Prop := match st with | none => v = .none | some c => ∃ t, v = .str (ch c) t
theorem sl_one {bf : Str} {ps c : Nat} {r : List Nat} (h : (sg bf).drop ps = c :: r) : ps < bf.length ∧ Txt.slice bf (some ps) (some (ps + 1 : Nat)) = ch c ∧ (sg bf).drop (ps + 1) = r := by
  have hl : ps < bf.length := by
    have := congrArg List.length h
    rw [List.length_drop, sg_len] at this
    simp at this; omega
  refine ⟨hl, ?_, by rw [← List.drop_drop, h]; rfl⟩
  exact slice_one (by rw [← List.head?_drop, h]; rfl)
theorem sl_none {bf : Str} {ps : Nat} (h : (sg bf).drop ps = []) : ¬ ps < bf.length := by
  intro q
  have := congrArg List.length h
  rw [List.length_drop, sg_len] at this
  simp at this; omega
theorem G_inTup {w : World} {A : Around} {fm : Fm} {vs : Vals} {cs : List HP} {E : Value → Vals → List HP → Prop} {a : Addr} {ys : List Value} {xs : List Str} {x : Str} {t : Tok} {Q : Value → Vals → List HP → Prop} (hl : ∀ s, Sit fm vs cs s → s.heap.IsTuple a ys.toArray) (hs : Strs ys xs) (h : Q (.bool (xs.any (· == x))) vs cs) : G w A fm (compareOp .In (.str x t) (.ref a)) Q E vs cs := fun s S => by
  have e : ∀ {ys : List Value} {xs : List Str}, Strs ys xs → ys.any (isStrOf x) = xs.any (· == x) := by
    intro ys xs q
    induction q with
    | nil => rfl
    | cons _ ih => rw [List.any_cons, List.any_cons, ih]; rfl
  refine SeqAt.in_tupleAt (isStrOf x) (hl s S) (fun y hy => (eq_isStrOf x t hs.are y (by simpa using hy)).at _ _) ?_
  rw [List.any_toArray, e hs]
  exact ⟨vs, cs, S, h⟩
theorem G_newTupR {w : World} {A : Around} {fm : Fm} {vs : Vals} {cs : List HP} {E : Value → Vals → List HP → Prop} {xs : List Value} {Q : Value → Vals → List HP → Prop} (hsz : xs.length ≤ sizeLine) (h : ∀ a, Q (.ref a) vs (TUP a xs :: cs)) : G w A fm (newTuple xs) Q E vs cs := fun s S =>
  wpAny_newTuple ⟨vs, _, S.grow1 (t := s.toks) (c := TUP s.heap.objs.size xs) (fun _ _ e => Heap.get?_push_of_some _ e) ⟨_, Heap.get?_push_size _ rfl, 0, rfl⟩ (fun b hb => by cases List.mem_singleton.mp hb; exact Nat.le_refl _), h _⟩ hsz
noncomputable abbrev wsS : Str := " \t\r\n"
noncomputable abbrev qtS : Str := "'\""
noncomputable abbrev esS : Str := "\\"
theorem fW {c : Nat} (h : isW c = true) : decide (c ∈ sg wsS) = false ∧ decide (c ∈ sg esS) = false ∧ decide (c ∈ sg WC) = true ∧ decide (c ∈ sg qtS) = false := by
  have : ∀ c ∈ [97, 98, 99], decide (c ∈ sg wsS) = false ∧ decide (c ∈ sg esS) = false ∧ decide (c ∈ sg WC) = true ∧ decide (c ∈ sg qtS) = false := by decide +kernel
  exact this c (by rcases isW_cases h with h | h | h <;> subst h <;> decide)
theorem fQ {c : Nat} (h : isQ c = true) : decide (c ∈ sg wsS) = false ∧ decide (c ∈ sg esS) = false ∧ decide (c ∈ sg WC) = false ∧ decide (c ∈ sg qtS) = true := by
  have : ∀ c ∈ [39, 34], decide (c ∈ sg wsS) = false ∧ decide (c ∈ sg esS) = false ∧ decide (c ∈ sg WC) = false ∧ decide (c ∈ sg qtS) = true := by decide +kernel
  exact this c (by rcases isQ_cases h with h | h <;> subst h <;> decide)
theorem fE {c : Nat} (h : isA c = true) : decide (c ∈ sg esS) = false := by
  rcases isA_cases h with h | h | h
  · exact (fW h).2.1
  · exact (fQ h).2.1
  · subst h; decide +kernel
theorem f32 : decide (32 ∈ sg wsS) = true := by decide +kernel
theorem f97 : decide (97 ∈ sg qtS) = false ∧ decide (97 ∈ sg esS) = false := by decide +kernel
theorem sgE : sg ("" : Str) = [] := by decide +kernel
noncomputable def goes (so : Option Nat) (acc : List Nat) (q : Bool) (rest : List Nat) (R : List Nat × Bool × Option Nat × List Nat) : Prop := match so with
  | none => rest = [] ∧ R = ([], q, none, [])
  | some st => scan rest st acc q = some R
theorem scan_len {R : List Nat × Bool × Option Nat × List Nat} : ∀ (rest : List Nat) (st : Nat) (acc : List Nat) (q : Bool), scan rest st acc q = some R → R.1.length ≤ acc.length + rest.length + 1
  | [], st, acc, q, h => by
    unfold scan at h
    split at h
    · cases h; show acc.length ≤ _; omega
    · cases h
  | c :: r, st, acc, q, h => by
    unfold scan at h
    have app : (acc ++ [c]).length = acc.length + 1 := by simp
    have l1 : ([c] : List Nat).length = 1 := rfl
    have l2 : (c :: r).length = r.length + 1 := rfl
    split at h
    · split at h
      · have := scan_len r _ _ _ h; omega
      · split at h
        · have := scan_len r _ _ _ h; omega
        · cases h
    · split at h
      · split at h
        · have := scan_len r _ _ _ h; omega
        · split at h
          · have := scan_len r _ _ _ h; omega
          · cases h
      · split at h
        · split at h
          · split at h
            · cases h; show acc.length ≤ _; omega
            · cases h
          · split at h
            · have := scan_len r _ _ _ h; omega
            · split at h
              · have := scan_len r _ _ _ h; omega
              · cases h
        · cases h
theorem G_midT {w : World} {A : Around} {fm : Fm} {vs : Vals} {cs : List HP} {E : Value → Vals → List HP → Prop} (R : Vals → List HP → Prop) {st : Stmt} {rest : List Stmt} {Q : Flow → Vals → List HP → Prop} (h : G w A fm (exec st fm.env) (Mid R) NoE vs cs) (k : ∀ vs cs, R vs cs → G w A fm (execs rest fm.env) Q E vs cs) :
    G w A fm (exec st fm.env) (Thn w A fm rest Q E) E vs cs := G.mono h (fun fl vs cs ⟨e, r⟩ => by subst e; exact k vs cs r) fun _ _ _ z => z.elim
section
variable (c : ShC) (x dx sdx : Addr) (bf : Str) (tb : Tok) (R : List Nat × Bool × Option Nat × List Nat)
noncomputable def Kt (vs : Vals) (cs : List HP) : Prop := E7 fun es nc stv tv tk tp' ps' => A5 (vs = [some (.ref x), some (.bool R.2.1), es, nc, none]) (stV R.2.2.1 stv) ((sg bf).drop ps' = R.2.2.2) (tv = .str (tx R.1) tk) (cs = [SH c x dx stv tv, SIO c.sx sdx "\n" bf 950 tb tp' ps'])
noncomputable def Jt (n : Nat) (vs : Vals) (cs : List HP) : Prop := E11 fun so acc q rest ps tp stv tv tk es nc => A8 (vs = [some (.ref x), some (.bool q), es, nc, none]) (cs = [SH c x dx stv tv, SIO c.sx sdx "\n" bf 950 tb tp ps]) (stV so stv) (tv = .str (tx acc) tk) ((sg bf).drop ps = rest) (n = rest.length) (goes so acc q rest R) (acc.length + rest.length ≤ 1000000)
variable {c x dx sdx bf tb R}
theorem Kt.mk {es nc : Option Value} {stv tv : Value} {tk tp' : Tok} {ps' : Nat} {q : Bool} (hq : q = R.2.1) (hst : stV R.2.2.1 stv) (hd : (sg bf).drop ps' = R.2.2.2) (ht : tv = .str (tx R.1) tk) : Kt c x dx sdx bf tb R [some (.ref x), some (.bool q), es, nc, none] [SH c x dx stv tv, SIO c.sx sdx "\n" bf 950 tb tp' ps'] := by
  subst hq; exact ⟨es, nc, stv, tv, tk, tp', ps', rfl, hst, hd, ht, rfl⟩
theorem Jt.mk {st : Nat} {acc : List Nat} {q : Bool} {rest : List Nat} {ps : Nat} {tp tk : Tok} {stv tv : Value} {es nc : Option Value} {ch0 : Nat} (hst : stV (some st) stv) (ht : tv = .str (tx acc) tk) (hd : (sg bf).drop ps = rest) (hg : scan rest st acc q = some R) (hl : acc.length + rest.length ≤ 1000000) :
    ∃ m, m < (ch0 :: rest).length ∧ Jt c x dx sdx bf tb R m [some (.ref x), some (.bool q), es, nc, none] [SH c x dx stv tv, SIO c.sx sdx "\n" bf 950 tb tp ps] :=
  ⟨rest.length, Nat.lt_succ_self _, some st, acc, q, rest, ps, tp, stv, tv, tk, es, nc, rfl, rfl, hst, ht, hd, rfl, hg, hl⟩
end
theorem scan0 {c : Nat} {r acc : List Nat} {q : Bool} {R : List Nat × Bool × Option Nat × List Nat} (h : scan (c :: r) 32 acc q = some R) : (isW c = true ∧ scan r 97 [c] q = some R) ∨ (isW c = false ∧ isQ c = true ∧ scan r c acc q = some R) := by
  unfold scan at h
  rw [if_pos (show ((32 : Nat) == 32) = true from rfl)] at h
  split at h
  · rename_i h1; exact .inl ⟨h1, h⟩
  · rename_i h1
    split at h
    · rename_i h2; exact .inr ⟨by simpa using h1, h2, h⟩
    · cases h
theorem scanQ {st c : Nat} {r acc : List Nat} {q : Bool} {R : List Nat × Bool × Option Nat × List Nat} (hs : isQ st = true) (h : scan (c :: r) st acc q = some R) : ((c == st) = true ∧ scan r 97 acc true = some R) ∨ ((c == st) = false ∧ isA c = true ∧ scan r st (acc ++ [c]) true = some R) := by
  have h32 : (st == 32) = false := by rcases isQ_cases hs with e | e <;> subst e <;> rfl
  unfold scan at h
  rw [if_neg (by rw [h32]; decide), if_pos hs] at h
  split at h
  · rename_i h1; exact .inl ⟨h1, h⟩
  · rename_i h1
    split at h
    · rename_i h2; exact .inr ⟨by simpa using h1, h2, h⟩
    · cases h
theorem scanA {c : Nat} {r acc : List Nat} {q : Bool} {R : List Nat × Bool × Option Nat × List Nat} (h : scan (c :: r) 97 acc q = some R) : (c = 32 ∧ (!acc.isEmpty || q) = true ∧ R = (acc, q, some 32, r)) ∨ (isQ c = true ∧ scan r c acc q = some R) ∨ (isW c = true ∧ scan r 97 (acc ++ [c]) q = some R) := by
  unfold scan at h
  rw [if_neg (by decide), if_neg (by decide), if_pos (show ((97 : Nat) == 97) = true from rfl)] at h
  split at h
  · rename_i h1
    split at h
    · rename_i h2; cases h; exact .inl ⟨beq_iff_eq.mp h1, h2, rfl⟩
    · cases h
  · split at h
    · rename_i h2; exact .inr (.inl ⟨h2, h⟩)
    · split at h
      · rename_i h3; exact .inr (.inr ⟨h3, h⟩)
      · cases h
theorem scanE {st : Nat} {acc : List Nat} {q : Bool} {R : List Nat × Bool × Option Nat × List Nat} (h : scan [] st acc q = some R) : (st = 32 ∨ st = 97) ∧ R = (acc, q, none, []) := by
  unfold scan at h
  split at h
  · rename_i h1
    simp only [Bool.or_eq_true, beq_iff_eq] at h1
    cases h; exact ⟨h1, rfl⟩
  · cases h
theorem scanS {c st : Nat} {r acc : List Nat} {q : Bool} {R : List Nat × Bool × Option Nat × List Nat} (h : scan (c :: r) st acc q = some R) (h32 : (st == 32) = false) (hq : isQ st = false) : st = 97 := by
  unfold scan at h
  rw [if_neg (by rw [h32]; decide), if_neg (by rw [hq]; decide)] at h
  split at h
  · rename_i h1; exact beq_iff_eq.mp h1
  · cases h
theorem len_ch (c : Nat) : (ch c).length = 1 := rfl
theorem sp_readToken (w : World) (c : ShC) (x dx sdx : Addr) (bf : Str) (tb tp ttok : Tok) (ps : Nat) (so : Option Nat) (stv tv : Value) (htv : tv = .str (tx []) ttok) (hst : stV so stv) (hb : bf.length ≤ 1000000) (hws : c.ws = true) (hcm : c.cm = ("" : Str)) (R : List Nat × Bool × Option Nat × List Nat) (hR : goes so [] false ((sg bf).drop ps) R) :
    Spec w (KT w) 4 (.ref 827) ⟨[.ref x], []⟩ (fun _ => True) [SH c x dx stv tv, SIO c.sx sdx "\n" bf 950 tb tp ps]
      (fun v cs => E5 fun stv tv tok tp' ps' => A5 (tokV R.1 R.2.1 v) (stV R.2.2.1 stv) ((sg bf).drop ps' = R.2.2.2) (tv = .str (tx []) tok) (cs = [SH c x dx stv tv, SIO c.sx sdx "\n" bf 950 tb tp' ps'])) := by
  refine Spec.of_body (ok_readToken w) (by decide +kernel) rfl (binds := [("self", .ref x)]) (fun s _ _ => BindsTo.of_eq (by kernel_rfl!)) (locs (by kernel_rfl!)) (vs₀ := [some (.ref x), none, none, none, none]) ⟨rfl, trivial⟩ ?_
  intro gp A b hA T hB
  generalize feet _ = F0
  refine letG ?_
  intro fm Q0
  refine G_cons ?_
  cell_end 5 0 0
  have hsgb : ((sg bf).drop ps).length ≤ 1000000 := by rw [List.length_drop, sg_len]; omega
  refine G_midT (Kt c x dx sdx bf tb R) ?_ ?_
  · refine G_While (Jt c x dx sdx bf tb R) (n := ((sg bf).drop ps).length) ⟨so, [], false, _, ps, tp, stv, tv, ttok, _, _, rfl, rfl, hst, htv, rfl, rfl, hR, by simpa using hsgb⟩ ?_
    clear hst htv hR hsgb
    rintro n vs cs ⟨so, acc, q, rest, ps, tp, stv, tv, tk, es, nc, rfl, rfl, hst, rfl, hdrop, rfl, hgo, hal⟩
    cell_end 5 0 0
    refine G_punct rfl (hA.le (by decide)) ?_
    cell_end 5 0 0
    refine G_truthyS0 ?_ ?_
    · decide +kernel
    cell_end 5 0 0
    refine G_methI (cok_SIO w) (f := 670) (by kernel_rfl!) (by kernel_rfl!) (by decide +kernel) ?_ (by rfl)
    cell_end 5 0 0
    refine ⟨c.sx, sdx, _, rfl, insAt (by cell_end 7 0 0), ?_⟩
    refine G_crS (by kernel_rfl!) ?_ (by k_dflt rfl)
    cell_end 5 0 0
    refine G_p1 ?_
    refine G_spec (cs₀ := [_]) (rest := [_]) (sp_sioRead w c.sx sdx "\n" bf 950 tb tp _ ps hb) (hA.le (by decide)) (fun _ _ => trivial) ?_
    rintro v cs ⟨tp', t', rfl, rfl⟩
    have hread : E2 fun ncs ps' => A3 ((if ps < bf.length then Txt.slice bf (some ps) (some (ps + 1 : Nat)) else "") = ncs) ((if ps < bf.length then ps + 1 else ps) = ps') ((ncs = Str.ofString "" ∧ rest = [] ∧ (sg bf).drop ps' = []) ∨ (E2 fun c r => A3 (ncs = ch c) (rest = c :: r) ((sg bf).drop ps' = r))) := by
      cases rest with
      | nil =>
        have := sl_none hdrop
        exact ⟨_, _, rfl, rfl, .inl ⟨if_neg this, rfl, by rw [if_neg this]; exact hdrop⟩⟩
      | cons c r =>
        obtain ⟨h1, h2, h3⟩ := sl_one hdrop
        exact ⟨_, _, rfl, rfl, .inr ⟨c, r, by rw [if_pos h1]; exact h2, rfl, by rw [if_pos h1]; exact h3⟩⟩
    obtain ⟨ncs, ps', e1, e2, hnc⟩ := hread
    rw [e1, e2]
    clear e1 e2 hdrop
    have h10 : (ncs == Str.ofString "\n") = false := by
      rcases hnc with ⟨rfl, _⟩ | ⟨c, r, rfl, rfl, _⟩
      · decide +kernel
      · have h1 : Str.ofString "\n" = ch 10 := by decide +kernel
        rw [h1, ch_beq]
        cases so with
        | none => exact absurd hgo.1 (by simp)
        | some st => exact beq_eq_false_iff_ne.mpr (isA_10 (scan_A hgo)).1
    have hcm0 : ∀ k : Nat, decide (k ∈ sg c.cm) = false := fun k => by rw [hcm, sgE]; rfl
    have hE0 : ∀ k : Nat, decide (k ∈ sg (Str.ofString "")) = false := fun k => by rw [sgE]; rfl
    cell_end 1 0 0
    cell_end 1 0 0
    cell_end 1 0 0
    refine G_p1 ?_
    cell_end 5 0 0
    refine G_eqS ?_
    rw [h10]
    cell_end 5 0 0
    refine G_geI ?_
    rw [show decide ((3 : Int) ≤ 0) = false from rfl]
    cell_end 5 0 0
    cases so with
    | none =>
      have hst : stv = .none := hst
      subst hst
      obtain ⟨hr, rfl⟩ := hgo
      have hd' : (sg bf).drop ps' = [] := by
        rcases hnc with ⟨_, _, h⟩ | ⟨_, _, _, h, _⟩
        · exact h
        · rw [hr] at h; cases h
      cell_end 5 0 0
      exact ⟨rfl, Kt.mk rfl rfl hd' (by rw [em_eq])⟩
    | some st =>
      obtain ⟨tst, rfl⟩ : ∃ t, stv = .str (ch st) t := hst
      have hgo : scan rest st acc q = some R := hgo
      cell_end 5 0 0
      refine G_eqS ?_
      rw [sp_eq, ch_beq]
      cell_end 5 0 0
      refine bif_s (fun h32 => ?_) (fun h32 => ?_)
      · cases beq_iff_eq.mp h32
        cell_end 5 0 0
        rcases hnc with ⟨rfl, rfl, hd'⟩ | ⟨k, r, rfl, rfl, hd'⟩
        · obtain ⟨_, rfl⟩ := scanE hgo
          refine G_truthyS0 (by decide +kernel) ?_
          cell_end 5 0 0
          exact ⟨rfl, Kt.mk rfl rfl hd' rfl⟩
        · have hl : (k :: r).length = r.length + 1 := rfl
          refine G_truthyS1 (by rw [len_ch]; decide) (by rw [len_ch]; decide) ?_
          cell_end 5 0 0
          rcases scan0 hgo with ⟨hw, hgo⟩ | ⟨_, hq, hgo⟩
          · obtain ⟨w1, w2, w3, w4⟩ := fW hw
            refine G_inS ?_
            rw [w1]
            cell_end 5 0 0
            refine G_inS ?_
            rw [hcm0]
            cell_end 5 0 0
            refine G_inS ?_
            rw [w2]
            cell_end 5 0 0
            refine G_inS ?_
            rw [w3]
            cell_end 5 0 0
            exact Jt.mk ⟨_, by rw [la_eq]⟩ rfl hd' hgo (by have : [k].length = 1 := rfl; omega)
          · obtain ⟨w1, w2, w3, w4⟩ := fQ hq
            refine G_inS ?_
            rw [w1]
            cell_end 5 0 0
            refine G_inS ?_
            rw [hcm0]
            cell_end 5 0 0
            refine G_inS ?_
            rw [w2]
            cell_end 5 0 0
            refine G_inS ?_
            rw [w3]
            cell_end 5 0 0
            refine G_punct rfl (hA.le (by decide)) ?_
            refine G_inS ?_
            rw [hE0]
            cell_end 5 0 0
            refine G_inS ?_
            rw [w4]
            cell_end 5 0 0
            exact Jt.mk ⟨_, rfl⟩ rfl hd' hgo (by omega)
      · cell_end 5 0 0
        refine G_inS ?_
        cases hsq : isQ st with
        | true =>
          obtain ⟨u1, u2, u3, u4⟩ := fQ hsq
          rw [u4]
          cell_end 5 0 0
          rcases hnc with ⟨rfl, rfl, hd'⟩ | ⟨k, r, rfl, rfl, hd'⟩
          · obtain ⟨e, _⟩ := scanE hgo
            rcases isQ_cases hsq with z | z <;> rw [z] at e <;> exact absurd e (by decide)
          have hl : (k :: r).length = r.length + 1 := rfl
          have hkA := scan_A hgo
          refine G_truthyS1 (by rw [len_ch]; decide) (by rw [len_ch]; decide) ?_
          cell_end 5 0 0
          refine G_eqS ?_
          rw [ch_beq]
          rcases scanQ hsq hgo with ⟨hc, hgo⟩ | ⟨hc, _, hgo⟩
          · rw [hc]
            cell_end 5 0 0
            exact Jt.mk ⟨_, by rw [la_eq]⟩ rfl hd' hgo (by omega)
          · rw [hc]
            cell_end 5 0 0
            refine G_inS ?_
            rw [fE hkA]
            cell_end 5 0 0
            refine G_iaddStr ?_ ?_
            · rw [len_ch]; exact szl (by show acc.length + 1 ≤ _; omega)
            intro _
            cell_end 5 0 0
            exact Jt.mk ⟨_, rfl⟩ (by rw [tx_app]) hd' hgo (by rw [List.length_append]; have : [k].length = 1 := rfl; omega)
        | false =>
          have hst97 : st = 97 := by
            rcases hnc with ⟨rfl, rfl, hd'⟩ | ⟨k, r, rfl, rfl, hd'⟩
            · exact (scanE hgo).1.elim (fun e => by rw [e] at h32; cases h32) id
            · exact scanS hgo h32 hsq
          subst hst97
          rw [f97.1]
          cell_end 5 0 0
          refine G_inS ?_
          rw [f97.2]
          cell_end 5 0 0
          refine G_newTupR (szl (Nat.le_of_ble_eq_true rfl)) ?_
          intro ta
          refine G_inTup (sitTup (.head _)) (.cons (.cons .nil)) ?_
          rw [show ([Str.ofString "a", Str.ofString "c"] : List Str).any (· == ch 97) = true by decide +kernel]
          refine G_drop ?_
          cell_end 5 0 0
          rcases hnc with ⟨rfl, rfl, hd'⟩ | ⟨k, r, rfl, rfl, hd'⟩
          · obtain ⟨_, rfl⟩ := scanE hgo
            refine G_truthyS0 (by decide +kernel) ?_
            cell_end 5 0 0
            exact ⟨rfl, Kt.mk rfl rfl hd' rfl⟩
          have hl : (k :: r).length = r.length + 1 := rfl
          refine G_truthyS1 (by rw [len_ch]; decide) (by rw [len_ch]; decide) ?_
          cell_end 5 0 0
          rcases scanA hgo with ⟨rfl, hne, rfl⟩ | ⟨hq, hgo⟩ | ⟨hw, hgo⟩
          · refine G_inS ?_
            rw [f32]
            cell_end 5 0 0
            refine G_geI ?_
            rw [show decide ((2 : Int) ≤ 0) = false from rfl]
            cell_end 5 0 0
            cases acc with
            | nil =>
              have hq : q = true := by simpa using hne
              subst hq
              refine G_truthyS0 rfl ?_
              cell_end 5 0 0
              exact ⟨rfl, Kt.mk rfl ⟨_, rfl⟩ hd' rfl⟩
            | cons a l =>
              refine G_truthyS1 (Nat.succ_ne_zero _) (by show l.length + 1 ≤ _; have : (a :: l).length = l.length + 1 := rfl; omega) ?_
              cell_end 5 0 0
              exact ⟨rfl, Kt.mk rfl ⟨_, rfl⟩ hd' rfl⟩
          · obtain ⟨w1, w2, w3, w4⟩ := fQ hq
            refine G_inS ?_
            rw [w1]
            cell_end 5 0 0
            refine G_inS ?_
            rw [hcm0]
            cell_end 5 0 0
            refine G_eqS ?_
            rw [show (ch 97 == Str.ofString "c") = false by decide +kernel]
            cell_end 5 0 0
            refine G_inS ?_
            rw [w4]
            cell_end 5 0 0
            exact Jt.mk ⟨_, rfl⟩ rfl hd' hgo (by omega)
          · obtain ⟨w1, w2, w3, w4⟩ := fW hw
            refine G_inS ?_
            rw [w1]
            cell_end 5 0 0
            refine G_inS ?_
            rw [hcm0]
            cell_end 5 0 0
            refine G_eqS ?_
            rw [show (ch 97 == Str.ofString "c") = false by decide +kernel]
            cell_end 5 0 0
            refine G_inS ?_
            rw [w4]
            cell_end 5 0 0
            refine G_inS ?_
            rw [w2]
            cell_end 5 0 0
            refine G_inS ?_
            rw [w3]
            cell_end 5 0 0
            refine G_iaddStr ?_ ?_
            · rw [len_ch]; exact szl (by show acc.length + 1 ≤ _; omega)
            intro _
            cell_end 5 0 0
            exact Jt.mk ⟨_, rfl⟩ (by rw [tx_app]) hd' hgo (by rw [List.length_append]; have : [k].length = 1 := rfl; omega)
  · rintro vs cs ⟨es, nc, stv, tv, tk, tp', ps', rfl, hst, hd, rfl, rfl⟩
    obtain ⟨acc, q, so', rest'⟩ := R
    dsimp only at hst hd ⊢
    cell_end 5 0 0
    cases q with
    | true =>
      cell_end 5 0 0
      refine G_gtI ?_
      rw [show decide ((1 : Int) < 0) = false from rfl]
      cell_end 5 0 0
      exact Out.all ⟨stv, _, _, tp', ps', .inr ⟨.inl rfl, _, rfl⟩, hst, hd, by rw [em_eq], rfl⟩
    | false =>
      cell_end 5 0 0
      refine G_eqS ?_
      rw [em_eq]
      cases acc with
      | nil =>
        rw [show (tx [] == tx []) = true by decide]
        cell_end 5 0 0
        refine G_gtI ?_
        rw [show decide ((1 : Int) < 0) = false from rfl]
        cell_end 5 0 0
        exact Out.all ⟨stv, _, _, tp', ps', .inl ⟨rfl, rfl, rfl⟩, hst, hd, rfl, rfl⟩
      | cons a l =>
        rw [show (tx (a :: l) == tx []) = false from beq_eq_false_iff_ne.mpr fun q => by injection q with q; have := congrArg Array.size q; simp at this]
        cell_end 5 0 0
        refine G_gtI ?_
        rw [show decide ((1 : Int) < 0) = false from rfl]
        cell_end 5 0 0
        exact Out.all ⟨stv, _, _, tp', ps', .inr ⟨.inr (by simp), _, rfl⟩, hst, hd, rfl, rfl⟩
end
end
section
open PySem PySem.W PyProof.Rows PySem.Calls
section
theorem G_eqSN {w : World} {A : Around} {fm : Fm} {vs : Vals} {cs : List HP} {E : Value → Vals → List HP → Prop} {Q : Value → Vals → List HP → Prop} {y : Str} {t : Tok} (h : Q (.bool false) vs cs) : G w A fm (compareOp .Eq (.str y t) .none) Q E vs cs := fun s S => EqNone.eq_str_none ⟨vs, cs, S, h⟩
theorem G_eqNN {w : World} {A : Around} {fm : Fm} {vs : Vals} {cs : List HP} {E : Value → Vals → List HP → Prop} {Q : Value → Vals → List HP → Prop} (h : Q (.bool true) vs cs) : G w A fm (compareOp .Eq .none .none) Q E vs cs := fun s S => EqNone.eq_none_none ⟨vs, cs, S, h⟩
noncomputable abbrev ns_getToken : List Str := ["self", "tok", "raw", "spec", "newfile", "newstream"]
theorem ok_getToken (w : World) : FnOk (KT w) 820 fd_getToken ns_getToken [] := fnOk_of (at_getToken w) (by kernel_rfl!)
/-- a shlex object with its stream and its two deques -/
noncomputable abbrev LEX (c : ShC) (x dx sdx : Addr) (bf : Str) (tb : Tok) (stv tv : Value) (tp : Tok) (ps : Nat) : List HP := [SH c x dx stv tv, SIO c.sx sdx "\n" bf 950 tb tp ps, DQE c.p1, DQE c.p2]
theorem sp_getToken (w : World) (c : ShC) (x dx sdx : Addr) (bf : Str) (tb tp ttok : Tok) (ps : Nat) (so : Option Nat) (stv tv : Value) (htv : tv = .str (tx []) ttok) (hst : stV so stv) (hb : bf.length ≤ 1000000) (hws : c.ws = true) (hcm : c.cm = ("" : Str)) (R : List Nat × Bool × Option Nat × List Nat) (hR : goes so [] false ((sg bf).drop ps) R) :
    Spec w (KT w) 5 (.ref 820) ⟨[.ref x], []⟩ (fun _ => True) (LEX c x dx sdx bf tb stv tv tp ps)
      (fun v cs => E5 fun stv tv tok tp' ps' => A5 (tokV R.1 R.2.1 v) (stV R.2.2.1 stv) ((sg bf).drop ps' = R.2.2.2) (tv = .str (tx []) tok) (cs = LEX c x dx sdx bf tb stv tv tp' ps')) := by
  refine Spec.of_body (ok_getToken w) (by decide +kernel) rfl (binds := [("self", .ref x)]) (fun s _ _ => BindsTo.of_eq (by kernel_rfl!)) (locs (by kernel_rfl!)) (vs₀ := [some (.ref x), none, none, none, none, none]) ⟨rfl, trivial⟩ ?_
  intro gp A b hA T hB
  generalize feet _ = F0
  refine letG ?_
  intro fm Q0
  refine G_cons ?_
  cell_end 5 0 0
  refine G_truthyDq (dqAt (by cell_end 7 0 0)) ?_
  cell_end 5 0 0
  refine G_methI (cok_SH w) (f := 827) (by kernel_rfl!) (by kernel_rfl!) (by decide +kernel) ?_ (by rfl)
  cell_end 5 0 0
  refine ⟨x, dx, _, rfl, insAt (by cell_end 7 0 0), ?_⟩
  refine G_crS0 (by kernel_rfl!) ?_
  refine G_spec (cs₀ := [_, _]) (rest := [_, _]) (sp_readToken w c x dx sdx bf tb tp ttok ps so stv tv htv hst hb hws hcm R hR) hA (fun _ _ => trivial) ?_
  rintro v cs ⟨stv', tv', tok, tp', ps', htok, hst', hd', rfl, rfl⟩
  cell_end 1 0 0
  cell_end 1 0 0
  refine G_sub (cs' := LEX c x dx sdx bf tb stv' (.str (tx []) tok) tp' ps') (.refl _) ?_
  cell_end 5 0 0
  rcases htok with ⟨q0, a0, rfl⟩ | ⟨hq, t, rfl⟩
  · let J21 : Nat → Vals → List HP → Prop := fun n vs cs => vs = [some (.ref x), none, some .none, none, none, none] ∧ cs = LEX c x dx sdx bf tb stv' (.str (tx []) tok) tp' ps'
    refine G_While J21 (n := 0) ⟨rfl, rfl⟩ ?_
    rintro n vs cs ⟨rfl, rfl⟩
    cell_end 5 0 0
    refine G_eqNN ?_
    cell_end 5 0 0
    refine G_truthyDq (dqAt (by cell_end 7 0 0)) ?_
    cell_end 5 0 0
    exact Out.all ⟨stv', _, tok, tp', ps', .inl ⟨q0, a0, rfl⟩, hst', hd', rfl, rfl⟩
  · let J22 : Nat → Vals → List HP → Prop := fun n vs cs => vs = [some (.ref x), none, some (.str (tx R.1) t), none, none, none] ∧ cs = LEX c x dx sdx bf tb stv' (.str (tx []) tok) tp' ps'
    refine G_While J22 (n := 0) ⟨rfl, rfl⟩ ?_
    rintro n vs cs ⟨rfl, rfl⟩
    cell_end 5 0 0
    refine G_eqSN ?_
    cell_end 5 0 0
    refine G_geI ?_
    rw [show decide ((1 : Int) ≤ 0) = false from rfl]
    cell_end 5 0 0
    exact Out.all ⟨stv', _, tok, tp', ps', .inr ⟨hq, t, rfl⟩, hst', hd', rfl, rfl⟩
end
end
section
open PySem PySem.W PyProof.Rows PySem.Calls
section
/-- the frames are known -/
noncomputable def FrA (A : Around) : Prop := ∃ l, A.frames = some l ∧ ∀ e ∈ l, e.scope.kind ≠ .module ∧ ∃ L, e.frame = some L
theorem FrA.deeper {A : Around} {env : Env} {L : Addr} (h : FrA A) (hk : env.scope.kind ≠ .module) (hf : env.frame = some L) : FrA (A.deeper env) := by
  obtain ⟨l, h1, h2⟩ := h
  refine ⟨env :: l, Around.frames_deeper h1, fun e he => ?_⟩
  cases he with
  | head => exact ⟨hk, L, hf⟩
  | tail _ he => exact h2 e he
/-- a new exception -/
structure NewX (h h' : Heap) (e : Addr) (C : Value) : Prop where
  keeps : ∀ b o, h.get? b = some o → h'.get? b = some o
  new : h.get? e = none
  there : ∃ oe vs, h'.get? e = some oe ∧ oe.cls = C ∧ oe.data = .fields vs ∧ vs[1]? = some .none
/-- what was thrown: the exception and the head of its traceback -/
structure Thrown (C : Value) (e T : Addr) (F : List Addr) (cs : List HP) (s s' : Shared) : Prop where
  tr : ∃ oe vs oT ts, s'.heap.get? e = some oe ∧ oe.cls = C ∧ oe.data = .fields vs ∧ vs[1]? = some (.ref T) ∧ T ≠ e ∧ s'.heap.get? T = some oT ∧ oT.data = .fields ts ∧ ts[3]? = some .none
  offC : ∀ c ∈ cs, e ∉ c.foot ∧ T ∉ c.foot
  offO : ∀ a o, s.heap.get? a = some o → a ∉ F → a ≠ e ∧ a ≠ T
/-- what is left of the heap where an exception passes -/
theorem Sit.passed {fm : Fm} {vs : Vals} {cs : List HP} {s : Shared} (S : Sit fm vs cs s) (hL : fm.env.locals ∈ fm.fr) {h'' : Heap} {t : Nat} (k1 : ∀ a o, a ∉ fm.fr → s.heap.get? a = some o → (a ∈ feet cs ∨ ∃ o', fm.b.heap.get? a = some o') → h''.get? a = some o) (k2 : ∀ a o, a ∈ fm.fr → s.heap.get? a = some o → ∃ sl, h''.get? a = some { o with slots := sl }) :
    Sit fm vs cs { s with heap := h'', toks := t } := by
  obtain ⟨m, ⟨o, es, ep, ho, r⟩, ag⟩ := S.loc
  refine ⟨S.fok, S.gens, S.os, fun a o e q q' => k1 a o q' (S.ext a o e q q') (.inr ⟨o, e⟩), fun a ha hn => ?_, ⟨m, ?_, ag⟩, fun c hc => ?_, S.apart⟩
  · obtain ⟨o, es, ep, sl, h1, h2, h3⟩ := S.frs a ha hn
    obtain ⟨sl', h4⟩ := k2 a _ ha h3
    exact ⟨o, es, ep, sl', h1, h2, h4⟩
  · obtain ⟨sl, h4⟩ := k2 _ _ hL ho
    exact ⟨_, es, ep, h4, r⟩
  · obtain ⟨p1, p2, p3⟩ := S.own c hc
    refine ⟨c.loc (fun a ha => ?_) p1, p2, p3⟩
    obtain ⟨o, ho⟩ := c.lt p1 a ha
    rw [ho]
    exact k1 a o (S.frOff hc ha).1 ho (.inl (mem_feet.mpr ⟨c, hc, ha⟩))
theorem funFrames {K : Frag} {base h : Heap} {l : List Env} (h1 : ∀ e ∈ l, e.scope.kind ≠ .module ∧ ∃ L, e.frame = some L) (hb : ∀ a ∈ l.filterMap (·.frame), base.get? a = none) (hh : ∀ a ∈ l.filterMap (·.frame), ∃ o es ep, h.get? a = some o ∧ o.data = .dict es ep) : h.FunFrames base l := by
  induction l with
  | nil => trivial
  | cons env l ih =>
    obtain ⟨hk, L, hL⟩ := h1 env (.head _)
    have hm : L ∈ (env :: l).filterMap (·.frame) := by rw [List.filterMap_cons, hL]; exact .head _
    have hs : ∀ a ∈ l.filterMap (·.frame), a ∈ (env :: l).filterMap (·.frame) := fun a ha => by rw [List.filterMap_cons, hL]; exact .tail _ ha
    obtain ⟨o, es, ep, ho, hd⟩ := hh L hm
    exact ⟨hk, ⟨L, o, hL, hb L hm, ho, fun vs q => by rw [hd] at q; cases q⟩, ih (fun e he => h1 e (.tail _ he)) (fun a ha => hb a (hs a ha)) fun a ha => hh a (hs a ha)⟩
/-- an exception that was just made leaves its frame -/
theorem leave_new {w : World} {A : Around} {fm : Fm} {vs : Vals} {cs : List HP} {s : Shared} {h' : Heap} {e : Addr} {C : Value} {outer : List Env} {E : Value → Shared → Prop} {Q : Unit → Shared → Prop} (S : Sit fm vs cs s) (hf : fm.env.frame = some fm.env.locals) (hA : A.frames = some (fm.env :: outer)) (hk : ∀ e ∈ fm.env :: outer, e.scope.kind ≠ .module ∧ ∃ L, e.frame = some L) (hfr : fm.fr = frOf A) (X : NewX s.heap h' e C)
    (h : ∀ h'' T, Sit fm vs cs { s with heap := h'' } → Thrown C e T fm.F cs fm.b { s with heap := h'' } → Q () { s with heap := h'' }) : wpAny (MD w) A (leaving fm.env (.ref e)) Q E { s with heap := h' } := by
  have hfr' : fm.fr = (fm.env :: outer).filterMap (·.frame) := by rw [hfr]; unfold frOf; rw [hA]; rfl
  have hL : fm.env.locals ∈ fm.fr := by rw [hfr', List.filterMap_cons, hf]; exact .head _
  obtain ⟨base, b1, b2, b3⟩ := without fm.fr s.heap
  obtain ⟨oe, vs', he, hc, hd, h1⟩ := X.there
  have hst : base.StaysIn h' := fun a o q => by
    by_cases ha : a ∈ fm.fr
    · rw [b1 a ha] at q; cases q
    · exact X.keeps a o ((b2 a ha) ▸ q)
  have hen : base.get? e = none := by
    by_cases ha : e ∈ fm.fr
    · exact b1 e ha
    · rw [b2 e ha]; exact X.new
  have hl : h'.FunFrames base (fm.env :: outer) := funFrames (K := fm.K) hk (fun a ha => b1 a (hfr' ▸ ha)) fun a ha => by
    obtain ⟨_, o, es, ep, ho, hd⟩ := S.frH a (hfr' ▸ ha)
    exact ⟨o, es, ep, X.keeps a o ho, hd⟩
  refine wpAny_leaving_first (s := { s with heap := h' }) hA hl hf he hst hen hd h1 fun h'' ⟨k1, k2, k3, k4⟩ => ?_
  have kfr : ∀ a o, a ∈ fm.fr → s.heap.get? a = some o → ∃ sl, h''.get? a = some { o with slots := sl } := fun a o ha ho => by
    obtain ⟨_, o', es, ep, ho', hd'⟩ := S.frH a ha
    rw [ho] at ho'; cases ho'
    exact k4 a o (X.keeps a o ho) fun vs q => by rw [hd'] at q; cases q
  have kk : ∀ a o, a ∉ fm.fr → s.heap.get? a = some o → h''.get? a = some o := fun a o ha ho => k1 a o ((b2 a ha).trans ho)
  obtain ⟨oe', vs'', T, oT, ts, g1, g2, g3, g4, g5, g6, g7, g8, g9⟩ := k3
  have S' : Sit fm vs cs { s with heap := h'' } := S.passed (t := s.toks) hL (fun a o ha ho _ => kk a o ha ho) kfr
  refine h h'' T S' ⟨⟨oe', vs'', oT, ts, g1, g2.trans hc, g3, g4, g6, g7, g8, g9⟩, fun c hc => ⟨fun q => ?_, fun q => ?_⟩, fun a o ho haF => ?_⟩
  · obtain ⟨o, ho⟩ := c.lt (S.own c hc).1 e q
    rw [X.new] at ho; cases ho
  · obtain ⟨o, ho⟩ := c.lt (S.own c hc).1 T q
    have : base.get? T = some o := (b2 T (S.frOff hc q).1).trans ho
    rw [g5] at this; cases this
  · have key : ∀ x, base.get? x = none → (∃ ox vx, h''.get? x = some ox ∧ ox.data = .fields vx) → a ≠ x := fun x hx ⟨ox, vx, h1, h2⟩ q => by
      subst q
      by_cases ha : a ∈ fm.fr
      · obtain ⟨o', es, ep, sl, f1, f2, f3⟩ := S'.frs a ha (Nat.ne_of_lt (Nat.lt_of_lt_of_le (Heap.lt_size ho) S.fok.base))
        have f3 : h''.get? a = some { o' with slots := sl } := f3
        rw [h1] at f3; cases f3
        rw [f2] at h2; cases h2
      · have := S.ext a o ho haF ha
        rw [← b2 a ha, hx] at this; cases this
    exact ⟨key e hen ⟨oe', vs'', g1, g3⟩, key T g5 ⟨oT, ts, g7, g8⟩⟩
end
end
section
open PySem PySem.W PyProof.Rows PySem.Calls
section
/-- what a call does that may raise -/
noncomputable def SpecX (gp : GP) (w : World) (K : Frag) (k : Nat) (f : Value) (args : Args) (B : Heap → Prop) (cs₀ : List HP) (Post : Value → List HP → Prop) (C : Value) (PE : List HP → Prop) : Prop :=
  ∀ A s, Rm A k → FrA A → TP K s.heap → FrH K (frOf A) s.heap → gp s.gens s.drawn → B s.heap → Own K (frOf A) cs₀ s.heap → codeAny (MD w) A (.call f args) (fun r s' => (∃ v cs₁, r = .ok (.ret v) ∧ Stp gp (feet cs₀) (frOf A) cs₁ s s' ∧ Post v cs₁) ∨
    (∃ e T cs₁, r = .error (.ref e) ∧ Stp gp (feet cs₀) (frOf A) cs₁ s s' ∧ PE cs₁ ∧ Thrown C e T (feet cs₀) cs₁ s s')) s
/-- an exception was just made -/
noncomputable def ThrowNow (fm : Fm) (C : Value) (PE : List HP → Prop) (e : Value) (s' : Shared) : Prop :=
  ∃ a vs' cs' s₁ h', e = .ref a ∧ s' = { s₁ with heap := h' } ∧ Sit fm vs' cs' s₁ ∧ NewX s₁.heap h' a C ∧ ∃ cs₁ junk, (cs₁ ++ junk).Perm cs' ∧ PE cs₁
/-- a triple whose raises are told of the state itself -/
noncomputable def GX {α : Type} (w : World) (A : Around) (fm : Fm) (t : Sem α) (Q : α → Vals → List HP → Prop) (Er : Value → Shared → Prop) (vs : Vals) (cs : List HP) : Prop :=
  ∀ s, Sit fm vs cs s → wpAny (MD w) A t (fun a => At fm (Q a)) Er s
theorem Thrown.sub {C : Value} {e T : Addr} {F : List Addr} {cs cs₁ junk : List HP} {s s' : Shared} (h : Thrown C e T F cs s s') (p : (cs₁ ++ junk).Perm cs) : Thrown C e T F cs₁ s s' := ⟨h.tr, fun c hc => h.offC c (p.mem_iff.mp (List.mem_append_left _ hc)), h.offO⟩
theorem SpecX.of_body {gp : GP} {w : World} {K : Frag} {k : Nat} {f : Addr} {fd : FuncData} {ns : List Str} {gs : List (Str × Value)} {args : Args} {B : Heap → Prop} {cs₀ : List HP} {Post : Value → List HP → Prop} {C : Value} {PE : List HP → Prop} {body : List Stmt} {binds : List (Str × Value)} {vs₀ : Vals}
    (ok : FnOk K f fd ns gs) (hcell : ∀ x ∈ fd.scope.names, x.2 ≠ .cell) (hb : fd.body = .stmts body) (hbind : ∀ s, TP K s.heap → B s.heap → BindsTo s fd args binds) (hloc : ∀ x ∈ binds, fd.scope.names.lookup x.1 = some .local)
    (hv : Agree ns vs₀ (fun x => binds.reverse.lookup x))
    (h : ∀ A b, Rm A k → FrA A → TP K b.heap → B b.heap → GX w A ⟨K, feet cs₀, b, callEnv fd b.heap.objs.size f, ns, gs, gp, frOf A⟩ (execs body (callEnv fd b.heap.objs.size f)) (Out Post) (ThrowNow ⟨K, feet cs₀, b, callEnv fd b.heap.objs.size f, ns, gs, gp, frOf A⟩ C PE) vs₀ cs₀) :
    SpecX gp w K (k + 1) (.ref f) args B cs₀ Post C PE := by
  intro A s hA hFA T hH hG hB O
  refine codeAny_call_def (fd := fd) (body := body) (binds := binds) (by have := hA.depth; omega) (T.kin _ _ ok.look) rfl T.lim (codeRec_of T.kin ok.code) hb (hbind s T hB) hcell hloc (fun h₀ hns hk => ?_) ok.co ok.gen ok.kind
  have S : Sit ⟨K, feet cs₀, s, callEnv fd s.heap.objs.size f, ns, gs, gp, frOf (A.deeper (callEnv fd s.heap.objs.size f))⟩ vs₀ cs₀ { s with heap := h₀, toks := s.toks + binds.length } := by
    refine ⟨⟨fun p hp => ok.gok p hp _, ⟨ok.glob, ok.bui⟩, T, fun a ha => ?_, ok.nd, fun x hx => ok.loc x hx, ok.dbg, ok.kind, Nat.le_refl _, fun a ha hn => ⟨(hH a (frOf_deeper rfl ha hn)).1, own_fr O (frOf_deeper rfl ha hn)⟩⟩, hG, rfl, fun a o e _ _ => hk a o e, frs_new hH hk fun a ha hn => frOf_deeper rfl ha hn, ⟨_, hns, hv⟩, fun c hc => ⟨?_, fun a ha => .inl (mem_feet.mpr ⟨c, hc, ha⟩), fun z => ?_⟩, O.apart⟩
    · obtain ⟨c, hc, ha⟩ := mem_feet.mp ha
      exact ((O.own c hc).2 a ha).1
    · refine c.loc (fun a ha => ?_) (O.own c hc).1
      obtain ⟨o, ho⟩ := c.lt (O.own c hc).1 a ha
      rw [ho]; exact hk _ _ ho
    · obtain ⟨o, ho⟩ := c.lt (O.own c hc).1 _ z
      exact absurd (Heap.lt_size ho) (Nat.lt_irrefl _)
  have hkm : (callEnv fd s.heap.objs.size f).scope.kind ≠ .module := by
    intro q
    have : fd.scope.kind = .module := q
    rw [ok.kind] at this; cases this
  have hFA' := hFA.deeper (env := callEnv fd s.heap.objs.size f) hkm rfl
  refine wpAny_mono (h (A.deeper (callEnv fd s.heap.objs.size f)) s hA.deeper hFA' T hB _ S) (fun fl s' x => ?_) fun e s' x => ?_
  · obtain ⟨vs', cs', S', cs₁, junk, p, q⟩ := x
    exact .inl ⟨_, cs₁, rfl, (S'.perm p).leave fun a ha hn => frOf_deeper rfl ha hn, q⟩
  · obtain ⟨a, vs', cs', s₁, h', rfl, rfl, S', X, cs₁, junk, p, pe⟩ := x
    obtain ⟨l, hl, hlk⟩ := hFA
    have hfr1 : (A.deeper (callEnv fd s.heap.objs.size f)).frames = some (callEnv fd s.heap.objs.size f :: l) := Around.frames_deeper hl
    refine leave_new S' rfl hfr1 (fun e he => ?_) rfl X fun h'' T S'' th => ?_
    · cases he with
      | head => exact ⟨hkm, _, rfl⟩
      | tail _ he => exact hlk e he
    · exact .inr ⟨a, T, cs₁, rfl, (S''.perm p).leave fun a ha hn => frOf_deeper rfl ha hn, pe, th.sub p⟩
section
variable {w : World} {A : Around} {fm : Fm} {vs : Vals} {cs : List HP} {Er : Value → Shared → Prop} {Q : Flow → Vals → List HP → Prop}
theorem GX.ofG {α : Type} {t : Sem α} {Q : α → Vals → List HP → Prop} (h : G w A fm t Q NoE vs cs) : GX w A fm t Q Er vs cs := fun s S => wpAny_mono (h s S) (fun _ _ x => x) fun _ _ ⟨_, _, _, z⟩ => z.elim
theorem GX_mid (R : Vals → List HP → Prop) {st : Stmt} {rest : List Stmt} (h : G w A fm (exec st fm.env) (Mid R) NoE vs cs) (k : ∀ vs cs, R vs cs → GX w A fm (execs rest fm.env) Q Er vs cs) : GX w A fm (execs (st :: rest) fm.env) Q Er vs cs := fun s S => by
  refine wpAny_execs_cons (wpAny_mono (h s S) (fun f s' x => ?_) fun _ _ ⟨_, _, _, z⟩ => z.elim)
  obtain ⟨v, c, p, rfl, r⟩ := x
  exact k v c r s' p
theorem GX_raise {st : Stmt} {rest : List Stmt} (h : GX w A fm (exec st fm.env) (fun _ _ _ => False) Er vs cs) : GX w A fm (execs (st :: rest) fm.env) Q Er vs cs := fun s S =>
  wpAny_execs_cons (wpAny_mono (h s S) (fun f s' ⟨_, _, _, z⟩ => z.elim) fun _ _ x => x)
theorem GX_If {test : Expr} {body orelse rest : List Stmt} {p : Pos}
    (h : G w A fm (isTrue test fm.env (eval test fm.env)) (fun b vs cs => bif b then GX w A fm (execs body fm.env) (fun _ _ _ => False) Er vs cs else (orelse = [] ∧ GX w A fm (execs rest fm.env) Q Er vs cs)) NoE vs cs) : GX w A fm (execs (.If test body orelse p :: rest) fm.env) Q Er vs cs := fun s S => by
  refine wpAny_execs_cons (wpAny_If (wpAny_mono (h s S) (fun b s₁ x => ?_) fun _ _ ⟨_, _, _, z⟩ => z.elim))
  obtain ⟨v, c, S', q⟩ := x
  cases b
  · obtain ⟨q0, q⟩ := q
    subst q0
    exact wpAny_execs_nil (q s₁ S')
  · exact wpAny_mono (q s₁ S') (fun f s' ⟨_, _, _, z⟩ => z.elim) fun _ _ x => x
end
end
section
theorem raw_Glob {w : World} {A : Around} {fm : Fm} {vs : Vals} {cs : List HP} {s : Shared} {E : Value → Shared → Prop} {x : Str} {p : Pos} {v : Value} {Q : Value → Shared → Prop} (S : Sit fm vs cs s) (g : In2 fm.gs x v) (h : Q v s) : wpAny (MD w) A (eval (.Name x p) fm.env) Q E s := by
  obtain ⟨hk, hd, e⟩ := S.fok.gok _ g.mem
  obtain ⟨mg, ng⟩ := S.top.gl
  obtain ⟨mb, nb, eb⟩ := S.top.bi
  rw [← S.fok.genv.1] at ng
  rw [← S.fok.genv.2] at nb
  have ng' := ng
  rw [S.fok.genv.1] at ng'
  rcases e with e | ⟨e, e2, e3⟩
  · exact Calls.Name_function_global S.fok.fk hk (Calls.loadGlobal_global ng (mg_of S.top.kin ng' e) h) hd
  · exact Calls.Name_function_global S.fok.fk hk (Calls.loadGlobal_builtin ng (mg_none_of S.top.kin ng' e) nb ((eb x e3).trans e2) h) hd
end
end
section
open PySem PySem.W PyProof.Rows PySem.Calls
section
noncomputable abbrev ns_shNext : List Str := ["self", "token"]
noncomputable abbrev gs_shNext : List (Str × Value) := [("StopIteration", .type "StopIteration")]
theorem ok_shNext (w : World) : FnOk (KT w) 856 fd_shNext ns_shNext gs_shNext := fnOk_of (at_shNext w) (by kernel_rfl!)
/-- how the lexer stands -/
noncomputable def LexAt (c : ShC) (x dx sdx : Addr) (bf : Str) (tb : Tok) (so : Option Nat) (rest : List Nat) (cs : List HP) : Prop := E5 fun stv tv tok tp ps => A4 (stV so stv) (tv = .str (tx []) tok) ((sg bf).drop ps = rest) (cs = LEX c x dx sdx bf tb stv tv tp ps)
theorem sp_shNext (gp : GP) (w : World) (c : ShC) (x dx sdx : Addr) (bf : Str) (tb : Tok) (so : Option Nat) (rest : List Nat) (cs₀ : List HP) (hcs : LexAt c x dx sdx bf tb so rest cs₀) (hb : bf.length ≤ 1000000) (hws : c.ws = true) (hcm : c.cm = ("" : Str)) (R : List Nat × Bool × Option Nat × List Nat) (hR : goes so [] false rest R) :
    SpecX gp w (KT w) 6 (.ref 856) ⟨[.ref x], []⟩ (fun _ => True) cs₀
      (fun v cs => (R.2.1 = true ∨ R.1 ≠ []) ∧ (∃ t, v = .str (tx R.1) t) ∧ LexAt c x dx sdx bf tb R.2.2.1 R.2.2.2 cs) (.type "StopIteration") (fun cs => (R.2.1 = false ∧ R.1 = []) ∧ LexAt c x dx sdx bf tb R.2.2.1 R.2.2.2 cs) := by
  obtain ⟨stv, tv, ttok, tp, ps, hst, htv, hd, rfl⟩ := hcs
  subst hd
  refine SpecX.of_body (ok_shNext w) (by decide +kernel) rfl (binds := [("self", .ref x)]) (fun s _ _ => BindsTo.of_eq (by kernel_rfl!)) (locs (by kernel_rfl!)) (vs₀ := [some (.ref x), none]) ⟨rfl, trivial⟩ ?_
  intro A b hA hFA T hB
  let J21 : Vals → List HP → Prop := fun vs cs => E6 fun v stv tv tok tp' ps' => A6 (vs = [some (.ref x), some v]) (tokV R.1 R.2.1 v) (stV R.2.2.1 stv) ((sg bf).drop ps' = R.2.2.2) (tv = .str (tx []) tok) (cs = LEX c x dx sdx bf tb stv tv tp' ps')
  refine GX_mid J21 ?_ ?_
  · cell_end 5 0 0
    refine G_methI (cok_SH w) (f := 820) (by kernel_rfl!) (by kernel_rfl!) (by decide +kernel) ?_ (by rfl)
    cell_end 5 0 0
    refine ⟨x, dx, _, rfl, insAt (by cell_end 7 0 0), ?_⟩
    refine G_crS0 (by kernel_rfl!) ?_
    refine G_spec (cs₀ := LEX c x dx sdx bf tb stv tv tp ps) (rest := []) (sp_getToken w c x dx sdx bf tb tp ttok ps so stv tv htv hst hb hws hcm R hR) hA (fun _ _ => trivial) ?_
    rintro v cs ⟨stv', tv', tok, tp', ps', htok, hst', hd', rfl, rfl⟩
    cell_end 1 0 0
    exact ⟨rfl, v, stv', _, tok, tp', ps', rfl, htok, hst', hd', rfl, by rw [List.append_nil]⟩
  · rintro vs cs ⟨v, stv', tv', tok, tp', ps', rfl, htok, hst', hd', rfl, rfl⟩
    refine GX_If ?_
    cell_end 5 0 0
    rcases htok with ⟨q0, a0, rfl⟩ | ⟨hq, t, rfl⟩
    · refine G_eqNN ?_
      cell_end 5 0 0
      refine GX_raise ?_
      intro s S
      refine owsi_raiseC hA.handled ?_ ?_
      · exact raw_Glob S In2.here ⟨rfl, rfl⟩
      · intro h' e hm
        obtain ⟨t, ht, _⟩ := hm.there
        exact ⟨e, _, _, s, h', rfl, rfl, S, ⟨hm.keeps, hm.new, _, _, ht, rfl, rfl, rfl⟩, _, [], by rw [List.append_nil], ⟨q0, a0⟩, stv', _, tok, tp', ps', hst', rfl, hd', rfl⟩
    · refine G_eqSN ?_
      cell_end 5 0 0
      refine ⟨rfl, GX.ofG ?_⟩
      cell_end 5 0 0
      exact Out.all ⟨hq, ⟨t, rfl⟩, stv', _, tok, tp', ps', hst', rfl, hd', rfl⟩
noncomputable abbrev ns_shIter : List Str := ["self"]
theorem ok_shIter (w : World) : FnOk (KT w) 849 fd_shIter ns_shIter [] := fnOk_of (at_shIter w) (by kernel_rfl!)
theorem sp_shIter (w : World) (x : Addr) : Spec w (KT w) 1 (.ref 849) ⟨[.ref x], []⟩ (fun _ => True) [] (fun v cs => v = .ref x ∧ cs = []) := by
  refine Spec.of_body (ok_shIter w) (by decide +kernel) rfl (binds := [("self", .ref x)]) (fun s _ _ => BindsTo.of_eq (by kernel_rfl!)) (locs (by kernel_rfl!)) (vs₀ := [some (.ref x)]) ⟨rfl, trivial⟩ ?_
  intro gp A b hA T hB
  refine letG ?_
  intro fm Q0
  refine G_cons ?_
  cell_end 5 0 0
  exact Out.all ⟨rfl, rfl⟩
end
end
section
open PySem PySem.W PyProof.Rows PySem.Calls
section
inductive Lexes : Option Nat → List Nat → List (List Nat) → Prop
  | stop {so : Option Nat} {rest : List Nat} {R : List Nat × Bool × Option Nat × List Nat} : goes so [] false rest R → R.2.1 = false → R.1 = [] → Lexes so rest []
  | tok {so : Option Nat} {rest : List Nat} {R : List Nat × Bool × Option Nat × List Nat} {ts : List (List Nat)} : goes so [] false rest R → (R.2.1 = true ∨ R.1 ≠ []) → Lexes R.2.2.1 R.2.2.2 ts → Lexes so rest (R.1 :: ts)
theorem Rm.in1 {A : Around} {k : Nat} (h : Rm A (k + 1)) : Rm A.in1 k := ⟨h.handled, by have := h.depth; show A.depth + k < _; omega, by have := h.units; show A.units + 1 + 16 * k + 100 < _; omega⟩
theorem frA_in1 {A : Around} (h : FrA A) : FrA A.in1 := h
theorem next_SH (w : World) : findIn (KT w) (.ref 859) "__next__" = some (some (.ref 856)) := by kernel_rfl!
theorem iter_SH (w : World) : findIn (KT w) (.ref 859) "__iter__" = some (some (.ref 849)) := by kernel_rfl!
theorem len_SH (w : World) : findIn (KT w) (.ref 859) "__len__" = some none := by kernel_rfl!
theorem hint_SH (w : World) : findIn (KT w) (.ref 859) "__length_hint__" = some none := by kernel_rfl!
theorem fn856 (w : World) : isFn (KT w) (.ref 856) = true := by kernel_rfl!
theorem fn849 (w : World) : isFn (KT w) (.ref 849) = true := by kernel_rfl!
theorem sub_stop : isSubtype (.type "StopIteration") (.type "StopIteration") = pure true := by rw [isSubtype_type]; kernel_rfl
/-- a heap under the frame, where nothing old is changed -/
theorem Sit.under {w : World} {fm : Fm} {vs : Vals} {cs : List HP} {s : Shared} (S : Sit fm vs cs s) (hF : fm.F = []) (hK : fm.K = KT w) : ∃ base m, Fr base fm.env.locals s.heap m ∧ (KT w).In base := by
  obtain ⟨m, n, a⟩ := S.loc
  obtain ⟨base, b1, b2, b3⟩ := without fm.fr fm.b.heap
  refine ⟨base, m, ⟨n, fun b o e => ?_, by rw [b3]; exact S.fok.base⟩, fun a o q => (b2 a fun hb => ?_).trans ((hK ▸ S.fok.top.kin) a o q)⟩
  · by_cases hb : b ∈ fm.fr
    · rw [b1 b hb] at e; cases e
    · exact S.ext b o ((b2 b hb) ▸ e) (by rw [hF]; exact fun q => (nomatch q)) hb
  · have hz : fm.b.heap.get? a = some o := (hK ▸ S.fok.top.kin) a o q
    obtain ⟨⟨z, _⟩, _⟩ := S.fok.kFr a hb (Nat.ne_of_lt (Nat.lt_of_lt_of_le (Heap.lt_size hz) S.fok.base))
    rw [hK, q] at z; cases z
theorem LexAt.inst {c : ShC} {x dx sdx : Addr} {bf : Str} {tb : Tok} {so : Option Nat} {rest : List Nat} {cs : List HP} (h : LexAt c x dx sdx bf tb so rest cs) {K : Frag} {fm : Fm} {vs : Vals} {cs' : List HP} {s : Shared} (S : Sit fm vs cs' s) (hm : ∀ d ∈ cs, d ∈ cs') : ∃ od, InstAt s.heap x (instO 859 dx) 859 od := by
  obtain ⟨stv, tv, tok, tp, ps, _, _, _, rfl⟩ := h
  obtain ⟨es, n, I, _⟩ := INS.inst (S.own _ (hm _ (.head _))).1
  exact ⟨_, I⟩
theorem mapSeq_list (acc : List Value) (n : Nat) (v : Value) : ∃ k, Obj.mapSeq (·.push v) (listO acc n) = listO (acc ++ [v]) k := ⟨n + 1, by
  show ({ cls := _, dict := _, data := .seq (acc.toArray.push v) _, slots := _ } : Obj) = _
  simp [listO]⟩
section
variable {w : World} {A : Around} {fm : Fm} {vs : Vals} {E : Value → Shared → Prop}
theorem lex_loop {c : ShC} {x dx sdx D : Addr} {bf : Str} {tb : Tok} {so : Option Nat} {rest : List Nat} {ts : List (List Nat)} (hF : fm.F = []) (hK : fm.K = KT w) (hA : Rm A.in1 6) (hFA : FrA A) (hfr : fm.fr = frOf A) (hb : bf.length ≤ 1000000) (hws : c.ws = true) (hcm : c.cm = ("" : Str)) (lx : Lexes so rest ts) {R : Result → Shared → Prop} {more : List HP} : ∀ {acc : List Value} {cs : List HP} {s : Shared}, LexAt c x dx sdx bf tb so rest cs → acc.length + ts.length ≤ 1000000 → Sit fm vs (cs ++ (RAW D acc :: more)) s →
    (∀ s' vs' cs₂, Strs vs' (ts.map tx) → Sit fm vs (cs₂ ++ (RAW D (acc ++ vs') :: more)) s' → R (.ok (.ret .none)) s') → codeAny (MD w) A (.builtin "list.extend.loop" ⟨[.ref D, .ref x, .none], []⟩) R s := by
  induction lx with
  | @stop so rest RR hg hq ha =>
    intro acc cs s hl hlen S hR
    refine codeAny_builtin F.entry_extend_loop ?_
    rw [Around.under_plainId F.plain_extend_loop _]
    show wpAny _ A.in1 (pyNext (.ref x) >>= _) _ _ s
    obtain ⟨base, m, Fx, X₀⟩ := S.under hF hK
    obtain ⟨od, I⟩ := hl.inst (K := KT w) S (fun d hd => List.mem_append_left _ hd)
    refine wpAny_bind (owit_next Fx X₀ I (next_SH w) (fn856 w) (wpAny_call ?_))
    refine codeAny_mono (sp_shNext fm.gp w c x dx sdx bf tb so rest cs hl hb hws hcm RR hg A.in1 s hA hFA (hK ▸ S.top) (show FrH (KT w) (frOf A) _ from hfr ▸ hK ▸ S.frH) S.gens trivial (show Own (KT w) (frOf A) _ _ from hfr ▸ hK ▸ S.owned)) ?_
    rintro r s' (⟨v, cs₁, rfl, st, ⟨hne, _⟩⟩ | ⟨e, T, cs₁, rfl, st, ⟨_, hl'⟩, th⟩)
    · rw [hq, ha] at hne; exact absurd hne (by simp)
    · have S' := S.call (show Stp fm.gp _ fm.fr _ _ _ from hfr.symm ▸ st)
      obtain ⟨oe, _, _, _, he, hc, _⟩ := th.tr
      have hT : s'.TypeIs (.ref e) "StopIteration" := ⟨oe, he, hc⟩
      show OwitStop _ _ _ _ _ _
      unfold OwitStop
      refine wpAny_isInstance hT sub_stop ?_
      rw [if_pos rfl]
      exact wpAny_pure (hR s' [] cs₁ .nil (by rw [List.append_nil]; exact S'))
  | @tok so rest RR ts hg hq lx ih =>
    intro acc cs s hl hlen S hR
    refine codeAny_builtin F.entry_extend_loop ?_
    rw [Around.under_plainId F.plain_extend_loop _]
    show wpAny _ A.in1 (pyNext (.ref x) >>= _) _ _ s
    obtain ⟨base, m, Fx, X₀⟩ := S.under hF hK
    obtain ⟨od, I⟩ := hl.inst (K := KT w) S (fun d hd => List.mem_append_left _ hd)
    refine wpAny_bind (owit_next Fx X₀ I (next_SH w) (fn856 w) (wpAny_call ?_))
    refine codeAny_mono (sp_shNext fm.gp w c x dx sdx bf tb so rest cs hl hb hws hcm RR hg A.in1 s hA hFA (hK ▸ S.top) (show FrH (KT w) (frOf A) _ from hfr ▸ hK ▸ S.frH) S.gens trivial (show Own (KT w) (frOf A) _ _ from hfr ▸ hK ▸ S.owned)) ?_
    rintro r s' (⟨v, cs₁, rfl, st, ⟨_, ⟨tv, rfl⟩, hl'⟩⟩ | ⟨e, T, cs₁, rfl, st, ⟨⟨q1, q2⟩, hl'⟩, th⟩)
    · have S' := S.call (show Stp fm.gp _ fm.fr _ _ _ from hfr.symm ▸ st)
      have S1 := S'.perm (cs' := RAW D acc :: (cs₁ ++ more)) List.perm_middle.symm
      obtain ⟨ob, eo, n, rfl⟩ := (S1.own _ (.head _)).1
      show wpAny _ A.in1 (updateSeq D (·.push _) >>= _) _ _ _
      have hal : acc.length ≤ 1000000 := by omega
      refine wpAny_bind (wpAny_updateSeq eo rfl ?_ (by rw [List.size_toArray]; exact szl hal) (by show (acc.toArray.push _).size ≤ _; rw [Array.size_push, List.size_toArray]; exact Nat.succ_le_succ (szl hal)))
      have hsb : Heap.SameBut D s'.heap (s'.heap.update D (Obj.mapSeq (·.push (Value.str (tx RR.1) tv)))) := Heap.SameBut.update ..
      have S2 := S1.upd (c' := RAW D (acc ++ [.str (tx RR.1) tv])) (t := s'.toks) (.head _) hsb (fun _ q => q) ⟨_, Heap.get?_update_self _ eo rfl, mapSeq_list acc n _⟩
      refine wpAny_pure ⟨plainId_quiet F.plain_extend_loop _, ih hl' (by rw [List.length_append]; have : [Value.str (tx RR.1) tv].length = 1 := rfl; have : (RR.1 :: ts).length = ts.length + 1 := rfl; omega) (S2.perm List.perm_middle) fun s'' vs' cs₂ hs S3 => ?_⟩
      exact hR s'' (.str (tx RR.1) tv :: vs') cs₂ (.cons hs) (by rw [List.append_assoc] at S3; exact S3)
    · rw [q1, q2] at hq; exact absurd hq (by simp)
/-- list(lex) -/
theorem G_listLex {c : ShC} {x dx sdx : Addr} {bf : Str} {tb : Tok} {so : Option Nat} {rest : List Nat} {ts : List (List Nat)} {cs₁ more : List HP} {E : Value → Vals → List HP → Prop} {Q : Value → Vals → List HP → Prop} (hF : fm.F = []) (hK : fm.K = KT w) (hA : Rm A 9) (hFA : FrA A) (hfr : fm.fr = frOf A) (hb : bf.length ≤ 1000000) (hws : c.ws = true) (hcm : c.cm = ("" : Str)) (lx : Lexes so rest ts) (hl : LexAt c x dx sdx bf tb so rest cs₁) (hn : ts.length ≤ 1000000)
    (h : ∀ D vs' cs₂, Strs vs' (ts.map tx) → Q (.ref D) vs (cs₂ ++ (RAW D vs' :: more))) : G w A fm (call (.type "list") [.ref x]) Q E vs (cs₁ ++ more) := fun s S => by
  refine callType_codes (Q₁ := fun obj s₁ => obj = .ref s.heap.objs.size ∧ s₁ = { s with heap := s.heap.push { cls := .type "list", data := .seq #[] } }) F.called_list (F.typeCall_list_1 _) F.entry_list_init (code_list_new _ ⟨rfl, rfl⟩) fun obj s₁ h₁ => ?_
  obtain ⟨rfl, rfl⟩ := h₁
  have hS : (s.heap.push { cls := .type "list", data := .seq #[] }).get? s.heap.objs.size = some { cls := .type "list", data := .seq #[] } := Heap.get?_push_size _ rfl
  have S1 : Sit fm vs (RAW s.heap.objs.size [] :: (cs₁ ++ more)) { s with heap := s.heap.push { cls := .type "list", data := .seq #[] } } := S.grow1 (t := s.toks) (c := RAW s.heap.objs.size []) (fun _ _ e => Heap.get?_push_of_some _ e) ⟨_, hS, 0, rfl⟩ (fun b hb => by cases List.mem_singleton.mp hb; exact Nat.le_refl _)
  refine ⟨⟨_, hS, rfl⟩, F.args_list_init_2 _ _, ?_⟩
  have hDx : s.heap.objs.size ≠ x := by
    obtain ⟨od, I⟩ := hl.inst (K := KT w) S (fun d hd => List.mem_append_left _ hd)
    exact Nat.ne_of_gt (Heap.lt_size I.at_)
  generalize hD : s.heap.objs.size = D at S1 hS hDx ⊢
  generalize hH : s.heap.push { cls := .type "list", data := .seq #[] } = H at S1 hS ⊢
  show wpAny _ A.in1.in1 (do let old ← Builtin.List.listItems (.ref D); Builtin.List.listUpdate (.ref D) (fun _ => #[]); letGo old.toList.reverse; Builtin.List.listExtendWith (.ref D) (.ref x) .none) _ _ _
  refine wpAny_bind ?_
  unfold Builtin.List.listItems
  refine wpAny_bind (wpAny_seqItems hS rfl (wpAny_pure ?_))
  show wpAny _ _ (updateSeq D (fun _ => #[]) >>= fun _ => letGo (#[] : Array Value).toList.reverse >>= fun _ => Builtin.List.listExtendWith (.ref D) (.ref x) .none) _ _ _
  refine wpAny_bind (wpAny_updateSeq hS rfl ?_)
  have hS₂ := Heap.get?_update_self (Obj.mapSeq (fun _ => (#[] : Array Value))) hS rfl
  have S2 := S1.upd (c' := RAW D []) (t := s.toks) (.head _) (Heap.SameBut.update H D (Obj.mapSeq (fun _ => (#[] : Array Value)))) (fun _ q => q) ⟨_, hS₂, _, rfl⟩
  refine wpAny_bind (wpAny_letGo ?_)
  unfold Builtin.List.listExtendWith
  have S3 : Sit fm vs (cs₁ ++ (RAW D [] :: more)) _ := S2.perm List.perm_middle
  generalize H.update D (Obj.mapSeq fun x => #[]) = H2 at S2 S3 hS₂ ⊢
  dsimp only at S3 ⊢
  obtain ⟨od, I⟩ := hl.inst (K := KT w) S3 (fun d hd => List.mem_append_left _ hd)
  refine wpAny_bind (I.type.here ?_)
  have h1 : Builtin.List.listSameRef (.ref D) (.ref x) = false := by simp [Builtin.List.listSameRef, hDx]
  have h2 : (Value.ref 859 == Value.type "list") = false := by decide
  have h3 : (Value.ref 859 == Value.type "tuple") = false := by decide
  simp only [h1, h2, h3, Bool.or_false, Bool.false_eq_true, if_false]
  obtain ⟨base, m, Fx, X₀⟩ := S3.under hF hK
  refine wpAny_bind (owit_iter Fx X₀ I (iter_SH w) (fn849 w) (wpAny_call ?_))
  refine codeAny_mono (sp_shIter w x fm.gp A.in1.in1 _ ⟨hA.handled, by have := hA.depth; show A.depth + 1 < _; omega, by have := hA.units; show A.units + 1 + 1 + 16 * 1 + 100 < _; omega⟩ (hK ▸ S3.top) (show FrH (KT w) (frOf A) _ from hfr ▸ hK ▸ S3.frH) S3.gens trivial ⟨fun _ q => (nomatch q), List.Pairwise.nil⟩) ?_
  rintro r s4 ⟨v, cs4, rfl, st, rfl, rfl⟩
  have S4 : Sit fm vs (cs₁ ++ (RAW D [] :: more)) s4 := Sit.call (cs₀ := []) (cs₁ := []) (rest := cs₁ ++ (RAW D [] :: more)) S3 (show Stp fm.gp _ fm.fr _ _ _ from hfr.symm ▸ st)
  obtain ⟨base, m, Fx, X₀⟩ := S4.under hF hK
  obtain ⟨od, I⟩ := hl.inst (K := KT w) S4 (fun d hd => List.mem_append_left _ hd)
  refine owit_it Fx X₀ I (next_SH w) ?_
  refine wpAny_bind (wpAny_holding ?_)
  have X4 : (KT w).In s4.heap := (hK ▸ S4.top).kin
  have hint : Looks (MD w) s4.heap (Builtin.List.listLengthHint (.ref x)) true := by
    have a0 := I.type (M := MD w)
    have a1 := looks_findIn (M := MD w) X4 (len_SH w)
    have a2 := looks_findIn (M := MD w) X4 (hint_SH w)
    intro A' Q' E' s' k q
    have a0 := a0.keeps k
    have a1 := a1.keeps k
    have a2 := a2.keeps k
    obtain ⟨hh, g, d, t, os⟩ := s'
    unfold Builtin.List.listLengthHint specialOf
    repeat lk
    exact q
  refine hint.here ?_
  simp only [Bool.true_or, if_true]
  refine wpAny_bind (wpAny_rule ?_)
  refine wpAny_bind ?_
  show wpAny _ _ (updateSeq D (·.push .none) >>= fun _ => updateSeq D (·.pop)) _ _ _
  have S5 := S4.perm (cs' := RAW D [] :: (cs₁ ++ more)) List.perm_middle.symm
  obtain ⟨ob, eo, n, rfl⟩ := (S5.own _ (.head _)).1
  refine wpAny_bind (wpAny_updateSeq eo rfl ?_)
  have hS₃ := Heap.get?_update_self (Obj.mapSeq (·.push Value.none)) eo rfl
  refine wpAny_updateSeq (hz := by seq_fits) hS₃ rfl ?_
  have hS₄ := Heap.get?_update_self (Obj.mapSeq (·.pop)) hS₃ rfl
  have S6 := S5.upd (c' := RAW D []) (t := s4.toks) (.head _) ((Heap.SameBut.update s4.heap D (Obj.mapSeq (·.push Value.none))).trans (Heap.SameBut.update _ D (Obj.mapSeq (·.pop)))) (fun _ q => q) ⟨_, hS₄, _, rfl⟩
  refine wpAny_pure ⟨plainId_quiet F.plain_extend_loop _, lex_loop (A := A.in1) hF hK ⟨hA.handled, by have := hA.depth; show A.depth + 6 < _; omega, by have := hA.units; show A.units + 1 + 1 + 16 * 6 + 100 < _; omega⟩ hFA hfr hb hws hcm lx hl (by simpa using hn) (S6.perm List.perm_middle) fun s' vs' cs₂ hs S' => ?_⟩
  exact ⟨rfl, vs, _, S', h D vs' cs₂ hs⟩
end
end
end
section
open PySem PySem.W PyProof.Rows PySem.Calls
section
/-- a call by name with one argument and one keyword -/
theorem G_CallKw1 {w : World} {A : Around} {fm : Fm} {vs : Vals} {cs : List HP} {E : Value → Vals → List HP → Prop} {Q : Value → Vals → List HP → Prop} {x kn : Str} {np p kp : Pos} {e ke : Expr}
    (h : G w A fm (eval (.Name x np) fm.env) (fun f vs cs => keepIn fm.K f = true ∧ G w A fm (eval e fm.env) (fun v vs cs => G w A fm (eval ke fm.env) (fun kv vs cs => G w A fm (call f [v] [(kn, kv)]) Q E vs cs) E vs cs) E vs cs) E vs cs) (he : notStar e = true) :
    G w A fm (eval (.Call (.Name x np) [e] [⟨some kn, ke, kp⟩] p) fm.env) Q E vs cs := fun s S => by
  refine wpAny_Call_Name_kw (wpAny_mono (h s S) (fun f s₁ y => ?_) fun _ _ z => z)
  obtain ⟨vs₁, cs₁, S₁, hk, g⟩ := y
  rw [star_of he]
  refine callWith_of rfl (keeps_top (w := w) hk) (evalArgs_kw rfl (spliced_cons (wpAny_mono (g s₁ S₁) (fun v s₂ y => spliced_nil ?_) fun _ _ z => z)))
  obtain ⟨vs₂, cs₂, S₂, g⟩ := y
  refine wpAny_evalAll_cons (wpAny_bind (wpAny_mono (g s₂ S₂) (fun kv s₃ y => wpAny_bind (wpAny_standAt (wpAny_pure (wpAny_evalAll_nil ?_)))) fun _ _ z => z))
  obtain ⟨vs₃, cs₃, S₃, g⟩ := y
  exact ⟨S₃.top.kin, g s₃ S₃⟩
noncomputable abbrev ns_split : List Str := ["s", "comments", "posix", "lex"]
noncomputable abbrev gs_split : List (Str × Value) := [("shlex", .ref 859), ("list", .type "list")]
theorem ok_split (w : World) : FnOk (KT w) 871 fd_split ns_split gs_split := fnOk_of (at_split w) (by kernel_rfl!)
theorem dflt864 (w : World) : (KT w).lookup 864 = some (ob864 w.params) := by kernel_rfl!
theorem sp_split (gp : GP) (w : World) (bf : Str) (tb : Tok) (ts : List (List Nat)) (hb : bf.length ≤ 1000000) (lx : Lexes (some 32) (sg bf) ts) (hn : ts.length ≤ 1000000) :
    SpecX gp w (KT w) 11 (.ref 871) ⟨[.str bf tb], []⟩ (fun _ => True) [] (fun v cs => E2 fun D vs' => A3 (v = .ref D) (Strs vs' (ts.map tx)) (cs = [RAW D vs'])) .none (fun _ => False) := by
  refine SpecX.of_body (ok_split w) (by decide +kernel) rfl (binds := [("s", .str bf tb), ("comments", .bool false), ("posix", .bool true)]) (fun s T _ => BindsTo.of_defaults (T := 864) rfl (T.kin _ _ (dflt864 w)) rfl rfl (by kernel_rfl!)) (locs (by kernel_rfl!)) (vs₀ := [some (.str bf tb), some (.bool false), some (.bool true), none]) ⟨rfl, rfl, rfl, trivial⟩ ?_
  intro A b hA hFA T hB
  refine GX.ofG ?_
  refine letG ?_
  intro fm Q0
  refine G_cons ?_
  cell_end 5 0 0
  refine G_CallKw1 ?_ (by k_dflt rfl)
  cell_end 5 0 0
  refine ⟨by kernel_rfl!, ?_⟩
  cell_end 5 0 0
  refine G_spec (cs₀ := []) (rest := []) (sp_mkSH w bf tb) (hA.le (by decide)) (fun _ _ => trivial) ?_
  rintro v cs ⟨x, dx, rfl, c, sdx, t1, t2, tp, hcm, rfl⟩
  cell_end 1 0 0
  cell_end 1 0 0
  refine G_sub (cs' := [SH c x dx (.str " " t1) (.str "" t2), DQE c.p1, DQE c.p2, SIO c.sx sdx "\n" bf 950 tb tp 0]) (by rw [List.append_nil]; exact .refl _) ?_
  cell_end 5 0 0
  rename_i tkk
  refine G_perm (cs' := LEX ⟨c.sx, c.p1, c.p2, "", true, tkk, c.t2, c.t3, c.t4, c.t5, c.t6, c.t7, c.t8, c.t9⟩ x dx sdx bf tb (.str " " t1) (.str "" t2) tp 0 ++ []) (List.Perm.cons _ (List.perm_middle (l₁ := [DQE c.p1, DQE c.p2])).symm) ?_
  refine G_listLex rfl rfl (hA.le (by decide)) hFA rfl hb rfl rfl lx ⟨_, _, t2, tp, 0, ⟨t1, by rw [sp_eq]⟩, by rw [em_eq], rfl, rfl⟩ hn ?_
  intro D vs' cs₂ hs
  cell_end 1 0 0
  exact Out.ret (cs₁ := [RAW D vs']) (junk := cs₂) List.perm_append_comm ⟨D, vs', rfl, hs, rfl⟩
end
end
section
open PySem PySem.W PyProof.Rows PySem.Calls
section
theorem scan_in {x t acc : List Nat} {q : Bool} (h : ∀ c ∈ x, isA c = true ∧ c ≠ 39) : ∃ q', scan (x ++ t) 39 acc q = scan t 39 (acc ++ x) q' := by
  induction x generalizing acc q with
  | nil => exact ⟨q, by rw [List.append_nil]; rfl⟩
  | cons c x ih =>
    obtain ⟨h1, h2⟩ := h c (.head _)
    obtain ⟨q', e⟩ := ih (acc := acc ++ [c]) (q := true) fun d hd => h d (.tail _ hd)
    refine ⟨q', ?_⟩
    rw [List.append_assoc] at e
    rw [← show acc ++ ([c] ++ x) = acc ++ c :: x from rfl, ← e]
    show (if ((39 : Nat) == 32) = true then _ else if isQ 39 = true then (if (c == 39) = true then _ else if isA c = true then scan (x ++ t) 39 (acc ++ [c]) true else none) else _) = _
    rw [if_neg (by decide), if_pos (by decide), if_neg (by simpa using h2), if_pos h1]
theorem scan_sep {t acc : List Nat} {q : Bool} : scan ([39, 34, 39, 34, 39] ++ t) 39 acc q = scan t 39 (acc ++ [39]) true := by rfl
theorem scan_end {t acc : List Nat} {q : Bool} : scan (39 :: t) 39 acc q = scan t 97 acc true := by rfl
theorem six_all {y : Str} (h : y ∈ sixN) : ∀ c ∈ sg y, isA c = true ∧ c ≠ 39 := by
  have : ∀ y ∈ sixN, ∀ c ∈ sg y, isA c = true ∧ c ≠ 39 := by decide +kernel
  exact this y h
theorem qz_eq : sg qz = [39, 34, 39, 34, 39] := by decide +kernel
theorem scan_body {row : List Str} (h : InSix row) : ∀ {t acc : List Nat} {q : Bool}, ∃ q', scan (jn [39, 34, 39, 34, 39] (row.map sg) ++ 39 :: t) 39 acc q = scan (39 :: t) 39 (acc ++ jn [39] (row.map sg)) q' := by
  induction row with
  | nil => intro t acc q; exact ⟨q, by show scan (39 :: t) 39 acc q = scan (39 :: t) 39 (acc ++ []) q; rw [List.append_nil]⟩
  | cons y r ih =>
    intro t acc q
    have hy := six_all (h y (.head _))
    cases r with
    | nil =>
      obtain ⟨q', e⟩ := scan_in (t := 39 :: t) (acc := acc) (q := q) hy
      exact ⟨q', e⟩
    | cons z r =>
      obtain ⟨q1, e1⟩ := scan_in (t := [39, 34, 39, 34, 39] ++ (jn [39, 34, 39, 34, 39] ((z :: r).map sg) ++ 39 :: t)) (acc := acc) (q := q) hy
      obtain ⟨q2, e2⟩ := @ih (fun y hy => h y (.tail _ hy)) t (acc ++ sg y ++ [39]) true
      refine ⟨q2, ?_⟩
      show scan ((sg y ++ [39, 34, 39, 34, 39] ++ jn [39, 34, 39, 34, 39] ((z :: r).map sg)) ++ 39 :: t) 39 acc q = scan (39 :: t) 39 (acc ++ (sg y ++ [39] ++ jn [39] ((z :: r).map sg))) q2
      rw [List.append_assoc, List.append_assoc, e1, scan_sep, e2, List.append_assoc, List.append_assoc, List.append_assoc]
theorem scan_wr {row : List Str} (h : InSix row) (hne : row ≠ []) (t : List Nat) : ∃ q, scan (sg (wr row) ++ t) 32 [] false = scan t 97 (sg (Txt.join "'" row)) q ∧ (q = true ∨ sg (Txt.join "'" row) ≠ []) := by
  have quoted : wr row = "'" ++ Txt.join qz row ++ "'" → ∃ q, scan (sg (wr row) ++ t) 32 [] false = scan t 97 (sg (Txt.join "'" row)) q ∧ (q = true ∨ sg (Txt.join "'" row) ≠ []) := fun e => by
    obtain ⟨q', e2⟩ := scan_body h (t := t) (acc := []) (q := false)
    refine ⟨true, ?_, .inl rfl⟩
    rw [e, sg_app, sg_app, sg_join, sg_join, qz_eq, tick_eq]
    show scan (39 :: (jn [39, 34, 39, 34, 39] (row.map sg)) ++ [39] ++ t) 32 [] false = scan t 97 (jn [39] (row.map sg)) true
    rw [show (39 :: (jn [39, 34, 39, 34, 39] (row.map sg)) ++ [39] ++ t) = 39 :: (jn [39, 34, 39, 34, 39] (row.map sg) ++ 39 :: t) by simp]
    show scan (jn [39, 34, 39, 34, 39] (row.map sg) ++ 39 :: t) 39 [] false = _
    rw [e2, scan_end]; rfl
  match row, hne with
  | [y], _ =>
    have hw := wr_one y
    have hy := h y (.head _)
    rw [six_abc hy] at hw
    have hj : Txt.join "'" [y] = y := rfl
    have one : ∀ c, isW c = true → sg y = [c] → ∃ q, scan (sg (wr [y]) ++ t) 32 [] false = scan t 97 (sg (Txt.join "'" [y])) q ∧ (q = true ∨ sg (Txt.join "'" [y]) ≠ []) := fun c hc e => by
      refine ⟨false, ?_, .inr (by rw [hj, e]; simp)⟩
      rw [hw, e, hj]
      rw [if_pos (by rcases isW_cases hc with z | z | z <;> subst z <;> decide), e]
      show (if ((32 : Nat) == 32) = true then (if isW c = true then scan t 97 [c] false else _) else _) = _
      rw [if_pos (by decide), if_pos hc]
    rcases six_cases hy with e | e | e | e | e | e
    · exact one 97 rfl e
    · exact one 98 rfl e
    · exact one 99 rfl e
    · exact quoted (by rw [hw, e]; rfl)
    · exact quoted (by rw [hw, e]; rfl)
    · exact quoted (by rw [hw, e]; rfl)
  | y :: z :: r, _ => exact quoted wr_more
theorem sp32 : sg (" " : Str) = [32] := by decide +kernel
theorem lex_none : Lexes none [] [] := .stop (R := ([], false, none, [])) ⟨rfl, rfl⟩ rfl rfl
theorem lex_line : ∀ {rows : List (List Str)}, (∀ r ∈ rows, InSix r ∧ r ≠ []) → Lexes (some 32) (sg (lineOf rows)) (rows.map fun r => sg (Txt.join "'" r))
  | [], _ => .stop (R := ([], false, none, [])) (by show scan (sg (lineOf [])) 32 [] false = _; rw [show sg (lineOf []) = [] by decide +kernel]; rfl) rfl rfl
  | [r], h => by
    obtain ⟨h1, h2⟩ := h r (.head _)
    obtain ⟨q, e, hq⟩ := scan_wr h1 h2 []
    rw [List.append_nil] at e
    refine .tok (R := (sg (Txt.join "'" r), q, none, [])) ?_ hq lex_none
    show scan (sg (lineOf [r])) 32 [] false = _
    rw [show lineOf [r] = wr r from rfl, e]; rfl
  | r :: r2 :: rs, h => by
    obtain ⟨h1, h2⟩ := h r (.head _)
    have e0 : sg (lineOf (r :: r2 :: rs)) = sg (wr r) ++ 32 :: sg (lineOf (r2 :: rs)) := by
      unfold lineOf
      rw [sg_join, sg_join, sp32]
      show sg (wr r) ++ [32] ++ jn [32] (((r2 :: rs).map wr).map sg) = _
      simp
    obtain ⟨q, e, hq⟩ := scan_wr h1 h2 (32 :: sg (lineOf (r2 :: rs)))
    have ih := lex_line (rows := r2 :: rs) fun r hr => h r (.tail _ hr)
    refine .tok (R := (sg (Txt.join "'" r), q, some 32, sg (lineOf (r2 :: rs)))) ?_ hq ih
    show scan (sg (lineOf (r :: r2 :: rs))) 32 [] false = _
    rw [e0, e]
    show (if ((97 : Nat) == 32) = true then _ else if isQ 97 = true then _ else if ((97 : Nat) == 97) = true then (if ((32 : Nat) == 32) = true then (if (!(sg (Txt.join "'" r)).isEmpty || q) = true then some (sg (Txt.join "'" r), q, some 32, sg (lineOf (r2 :: rs))) else none) else _) else none) = _
    rw [if_neg (by decide), if_neg (by decide), if_pos (by decide), if_pos (by decide), if_pos]
    rcases hq with rfl | hq
    · simp
    · cases hs : sg (Txt.join "'" r) with
      | nil => exact absurd hs hq
      | cons a l => rfl
theorem tx_sg (x : Str) : tx (sg x) = x := by apply sg_ext; rfl
end
end
section
open PySem PySem.W PyProof.Rows PySem.Calls
section
theorem slp0 (v : Value) : slotsPut #[] 0 v = #[some v] := by simp [slotsPut]
theorem slp1 (a : Option Value) (v : Value) : slotsPut #[a] 1 v = #[a, some v] := by simp [slotsPut]
theorem slp2 (a b : Option Value) (v : Value) : slotsPut #[a, b] 2 v = #[a, b, some v] := by simp [slotsPut]
theorem ins_slt {C x dx : Addr} : ∀ h, (INS C [] x dx []).ok h → (SLT C x dx #[]).ok h := fun h ⟨h1, h2, es, n, h3, h4⟩ => ⟨h1, h2, n, by
  have hl : es = [] := List.length_eq_zero_iff.mp h4.len
  rw [hl] at h3; exact h3⟩
noncomputable abbrev ns_niInit : List Str := ["self", "node"]
theorem ok_niInit (w : World) : FnOk (KT w) 66 fd_niInit ns_niInit [] := fnOk_of (at_niInit w) (by kernel_rfl!)
theorem sp_niInit (w : World) (x dx : Addr) (k : Str) (t : Tok) : Spec w (KT w) 1 (.ref 66) ⟨[.ref x, .str k t], []⟩ (fun _ => True) [INS 70 [] x dx []] (fun v cs => v = .none ∧ ∃ la tn, cs = [SLT 70 x dx #[some (.str k t), some (.int 0 tn), some (.ref la)], RAW la []]) := by
  refine Spec.of_body (ok_niInit w) (by decide +kernel) rfl (binds := [("self", .ref x), ("node", .str k t)]) (fun s _ _ => BindsTo.of_eq (by kernel_rfl!)) (locs (by kernel_rfl!)) (vs₀ := [some (.ref x), some (.str k t)]) ⟨rfl, rfl, trivial⟩ ?_
  intro gp A b hA T hB
  refine G_turn (SLT 70 x dx #[]) (fun _ q => q) ins_slt ?_
  refine letG ?_
  intro fm Q0
  refine G_cons ?_
  cell_end 5 0 0
  refine G_setSlot (so_node w) ?_
  rw [slp0]
  cell_end 5 0 0
  refine G_setSlot (so_np w) ?_
  rw [slp1]
  cell_end 5 0 0
  refine G_newListR (by decide) ?_
  intro la
  cell_end 5 0 0
  refine G_p1 ?_
  refine G_setSlot (so_su w) ?_
  rw [slp2]
  cell_end 5 0 0
  exact ⟨[_, _], [], .refl _, rfl, la, _, rfl⟩
theorem mk_NI (w : World) : makesIn (KT w) 70 = true := by kernel_rfl!
theorem in_NI (w : World) : findIn (KT w) (.ref 70) "__init__" = some (some (.ref 66)) := by kernel_rfl!
theorem fn66 (w : World) : isFn (KT w) (.ref 66) = true := by kernel_rfl!
theorem sp_mkNI (w : World) (k : Str) (t : Tok) : Spec w (KT w) 2 (.ref 70) ⟨[.str k t], []⟩ (fun _ => True) [] (fun v cs => E2 fun x dx => v = .ref x ∧ ∃ la tn, cs = [SLT 70 x dx #[some (.str k t), some (.int 0 tn), some (.ref la)], RAW la []]) := fun gp =>
  SpecP.make (ks := []) (nv := 0) (mk_NI w) (in_NI w) (fn66 w) (by decide) (fun _ _ _ _ => trivial) fun x dx => sp_niInit w x dx k t gp
noncomputable abbrev ns_tsInit : List Str := ["self", "graph", "node", "predecessors"]
theorem ok_tsInit (w : World) : FnOk (KT w) 103 fd_tsInit ns_tsInit [] := fnOk_of (at_tsInit w) (by kernel_rfl!)
theorem dflt96 (w : World) : (KT w).lookup 96 = some (ob96 w.params) := by kernel_rfl!
/-- a sorter object -/
noncomputable abbrev TSO (x dx D : Addr) (rd : Value) (po : Int) (tpo : Tok) (nf : Int) (tnf : Tok) : HP := INS 167 ksTS x dx [some (.ref D), some rd, some (.int po tpo), some (.int nf tnf)]
theorem sp_tsInit (w : World) (x dx : Addr) : Spec w (KT w) 1 (.ref 103) ⟨[.ref x], []⟩ (fun _ => True) [INS 167 ksTS x dx [none, none, none, none]] (fun v cs => v = .none ∧ (E3 fun D t1 t2 => cs = [TSO x dx D .none 0 t1 0 t2, DCT w D [], NDS []])) := by
  refine Spec.of_body (ok_tsInit w) (by decide +kernel) rfl (binds := [("self", .ref x), ("graph", .none)]) (fun s T _ => BindsTo.of_defaults (T := 96) rfl (T.kin _ _ (dflt96 w)) rfl rfl (by kernel_rfl!)) (locs (by kernel_rfl!)) (vs₀ := [some (.ref x), some .none, none, none]) ⟨rfl, rfl, trivial⟩ ?_
  intro gp A b hA T hB
  refine G_ndNil (G_p1 ?_)
  refine letG ?_
  intro fm Q0
  refine G_cons ?_
  cell_end 5 0 0
  refine G_Dict0 ?_
  intro D
  cell_end 5 0 0
  refine G_p1 ?_
  cell_end 5 0 0
  exact ⟨[_, _, _], [], .refl _, rfl, D, _, _, rfl⟩
end
end
section
open PySem PySem.W PyProof.Rows PySem.Calls
section
section
variable {w : World} {A : Around} {fm : Fm} {vs : Vals} {cs : List HP} {E : Value → Vals → List HP → Prop}
theorem G_Named {target value : Expr} {p : Pos} {Q : Value → Vals → List HP → Prop} (h : G w A fm (eval value fm.env) (fun v vs cs => G w A fm (assign target fm.env v) (fun _ => Q v) E vs cs) E vs cs) : G w A fm (eval (.NamedExpr target value p) fm.env) Q E vs cs := fun s S =>
  wpAny_NamedExpr (wpAny_mono (h s S) (fun v s₁ ⟨_, _, S', q⟩ => q s₁ S') fun _ _ x => x)
theorem G_Assign2 {t₁ t₂ value : Expr} {p : Pos} {Q : Flow → Vals → List HP → Prop} (h : G w A fm (eval value fm.env) (fun v vs cs => G w A fm (assign t₁ fm.env v) (fun _ vs cs => G w A fm (assign t₂ fm.env v) (fun _ => Q .next) E vs cs) E vs cs) E vs cs)
    (he : (assignEach [t₁, t₂] fm.env).map (·.2) = [assign t₁ fm.env, assign t₂ fm.env]) (hw : swappedStores [t₁, t₂] value fm.env = pure none) : G w A fm (exec (.Assign [t₁, t₂] value p) fm.env) Q E vs cs := fun s S =>
  wpAny_Assign_two (wpAny_mono (h s S) (fun v s₁ ⟨_, _, S', q⟩ => wpAny_mono (q s₁ S') (fun _ s₂ ⟨_, _, S', q⟩ => q s₂ S') fun _ _ x => x) fun _ _ x => x) he hw
/-- a store through a subscript -/
theorem G_aSub {o i : Expr} {p : Pos} {v : Value} {Q : Unit → Vals → List HP → Prop} (h : G w A fm (eval o fm.env) (fun ov vs cs => G w A fm (eval i fm.env) (fun iv vs cs => G w A fm (setItem ov iv v) Q E vs cs) E vs cs) E vs cs) : G w A fm (assign (.Subscript o i p) fm.env v) Q E vs cs := fun s S => by
  rw [arm_assign_Subscript]
  refine wpAny_bind (wpAny_holding (wpAny_mono (h s S) (fun ov s₁ ⟨_, _, S', q⟩ => ?_) fun _ _ x => x))
  refine wpAny_bind (wpAny_holding (wpAny_mono (q s₁ S') (fun iv s₂ ⟨_, _, S', q⟩ => ?_) fun _ _ x => x))
  refine wpAny_bind (wpAny_standAt (wpAny_bind (wpAny_holding (wpAny_mono (q s₂ S') (fun _ s₃ y => ?_) fun _ _ x => x))))
  exact wpAny_release y
end
theorem val_cases (nds : List Nd) (k : Str) : (∃ n ∈ nds, n.key = k ∧ valueAt (nds.map fun n => (n.key, Value.ref n.x)) k = some (.ref n.x)) ∨ ((∀ n ∈ nds, n.key ≠ k) ∧ valueAt (nds.map fun n => (n.key, Value.ref n.x)) k = none) := by
  induction nds with
  | nil => exact .inr ⟨fun _ q => (nomatch q), rfl⟩
  | cons n r ih =>
    by_cases h : n.key = k
    · refine .inl ⟨n, .head _, h, ?_⟩
      unfold valueAt
      rw [List.map_cons, List.find?_cons_of_pos (by simpa using h)]; rfl
    · have e : valueAt ((n :: r).map fun n => (n.key, Value.ref n.x)) k = valueAt (r.map fun n => (n.key, Value.ref n.x)) k := by
        unfold valueAt
        rw [List.map_cons, List.find?_cons_of_neg (by simpa using h)]
      rw [e]
      rcases ih with ⟨m, hm, h1, h2⟩ | ⟨h1, h2⟩
      · exact .inl ⟨m, .tail _ hm, h1, h2⟩
      · refine .inr ⟨fun m hm => ?_, h2⟩
        cases hm with
        | head => exact h
        | tail _ hm => exact h1 m hm
theorem stored_new (nds : List Nd) (k : Str) (v : Value) (h : ∀ n ∈ nds, n.key ≠ k) : stored (nds.map fun n => (n.key, Value.ref n.x)) k v = (nds.map fun n => (n.key, Value.ref n.x)) ++ [(k, v)] := by
  unfold stored
  rw [if_neg]
  intro q
  obtain ⟨p, hp, e⟩ := List.any_eq_true.mp q
  obtain ⟨n, hn, rfl⟩ := List.mem_map.mp hp
  exact h n hn (of_decide_eq_true e)
noncomputable abbrev ns_getNi : List Str := ["self", "node", "result"]
noncomputable abbrev gs_getNi : List (Str × Value) := [("_NodeInfo", .ref 70)]
theorem ok_getNi (w : World) : FnOk (KT w) 110 fd_getNi ns_getNi gs_getNi := fnOk_of (at_getNi w) (by kernel_rfl!)
noncomputable abbrev kvs (nds : List Nd) : List (Str × Value) := nds.map fun n => (n.key, .ref n.x)
theorem sp_getNi (w : World) (x dx D : Addr) (rd : Value) (po nf : Int) (tpo tnf : Tok) (nds : List Nd) (k : Str) (t : Tok) (hn : nds.length ≤ 1000) :
    Spec w (KT w) 3 (.ref 110) ⟨[.ref x, .str k t], []⟩ (fun _ => True) [TSO x dx D rd po tpo nf tnf, DCT w D (kvs nds), NDS nds]
      (fun v cs => (∃ n ∈ nds, n.key = k ∧ v = .ref n.x ∧ cs = [TSO x dx D rd po tpo nf tnf, DCT w D (kvs nds), NDS nds]) ∨ ((∀ n ∈ nds, n.key ≠ k) ∧ (∃ n, A5 (n.key = k) (n.np = 0) (n.su = []) (v = .ref n.x) (cs = [TSO x dx D rd po tpo nf tnf, DCT w D (kvs (nds ++ [n])), NDS (nds ++ [n])])))) := by
  refine Spec.of_body (ok_getNi w) (by decide +kernel) rfl (binds := [("self", .ref x), ("node", .str k t)]) (fun s _ _ => BindsTo.of_eq (by kernel_rfl!)) (locs (by kernel_rfl!)) (vs₀ := [some (.ref x), some (.str k t), none]) ⟨rfl, rfl, trivial⟩ ?_
  intro gp A b hA T hB
  generalize feet _ = F0
  refine letG ?_
  intro fm Q0
  refine G_cons ?_
  cell_end 5 0 0
  refine G_Named ?_
  refine G_m1 F.slot_dict_get F.type_dict_get F.plainAttrs_dict ?_ (by k_dflt rfl) (by k_dflt rfl) (by k_dflt rfl)
  cell_end 5 0 0
  refine ⟨dctTy (by cell_end 7 0 0), ?_⟩
  cell_end 5 0 0
  refine G_dget (dctAt (by cell_end 7 0 0)) ?_
  rcases val_cases nds k with ⟨n, hm, hk, hv⟩ | ⟨hno, hv⟩
  · rw [hv, Option.getD_some]
    cell_end 5 0 0
    exact ⟨[_, _, _], [], .refl _, .inl ⟨n, hm, hk, rfl, rfl⟩⟩
  · rw [hv, Option.getD_none]
    cell_end 5 0 0
    refine G_Assign2 ?_ (by k_dflt rfl) (by k_dflt rfl)
    cell_end 5 0 0
    refine G_crN (by kernel_rfl!) ?_ (by k_dflt rfl)
    cell_end 5 0 0
    refine G_spec (cs₀ := []) (rest := [_, _, _]) (sp_mkNI w k t) (hA.le (by decide)) (fun _ _ => trivial) ?_
    rintro v cs ⟨nx, ndx, rfl, la, tn, rfl⟩
    refine G_sub (cs' := [SLT 70 nx ndx #[some (.str k t), some (.int 0 tn), some (.ref la)], RAW la [], TSO x dx D rd po tpo nf tnf, DCT w D (kvs nds), NDS nds]) (.refl _) ?_
    refine G_aSub ?_
    cell_end 5 0 0
    refine G_p3 ?_
    refine G_dset (by rw [List.length_map]; omega) ?_
    rw [stored_new nds k _ hno]
    refine G_perm (cs' := [SLT 70 nx ndx #[some (.str k t), some (.int 0 tn), some (.ref la)], RAW la [], NDS nds, TSO x dx D rd po tpo nf tnf, DCT w D (kvs nds ++ [(k, .ref nx)])]) ((List.perm_middle (l₁ := [_, _, _, _])).trans (.cons _ (.cons _ (.cons _ (.swap _ _ _))))) ?_
    refine G_ndNew ⟨k, t, nx, ndx, la, 0, tn, []⟩ ?_
    cell_end 5 0 0
    refine ⟨[TSO x dx D rd po tpo nf tnf, DCT w D (kvs (nds ++ [⟨k, t, nx, ndx, la, 0, tn, []⟩])), NDS (nds ++ [⟨k, t, nx, ndx, la, 0, tn, []⟩])], [], ?_, .inr ⟨hno, ⟨k, t, nx, ndx, la, 0, tn, []⟩, rfl, rfl, rfl, rfl, rfl⟩⟩
    rw [show kvs (nds ++ [⟨k, t, nx, ndx, la, 0, tn, []⟩]) = kvs nds ++ [(k, .ref nx)] by simp [kvs]]
    exact (List.perm_middle (l₁ := [_, _]))
end
end
section
open PySem PySem.W PyProof.Rows PySem.Calls
section
/-- a sorter with its graph -/
noncomputable def SRT (w : World) (x dx D : Addr) (rd : Value) (po nf : Int) (g : Gr) (N : Nat) (cs : List HP) : Prop := E3 fun nds tpo tnf => GrOk nds g N ∧ cs = [TSO x dx D rd po tpo nf tnf, DCT w D (kvs nds), NDS nds]
theorem Strs.nil_of {xs : List Str} (h : Strs [] xs) : xs = [] := by cases h; rfl
theorem grOk_get {nds : List Nd} {g : Gr} {N : Nat} (h : GrOk nds g N) {k : Str} {n : Nd} (hno : ∀ m ∈ nds, m.key ≠ k) (hk : n.key = k) (hp : n.np = 0) (hs : n.su = []) : GrOk (nds ++ [n]) (gGet g k) (N + 1) := by
  have hkg : k ∉ keysOf g := fun q => by
    rw [← h.are.keys] at q
    obtain ⟨m, hm, e⟩ := List.mem_map.mp q
    exact hno m hm e
  rw [gGet_not hkg]
  refine ⟨?_, ?_, by simp; exact h.len, fun m hm => ?_⟩
  · have := h.are.snoc (n := n) (su := []) (by rw [hs]; exact .nil)
    rwa [hk, hp] at this
  · show (keysOf (g ++ [(k, 0, [])])).Nodup
    rw [keysOf, List.map_append]
    exact List.nodup_append.mpr ⟨h.nd, List.nodup_cons.mpr ⟨fun q => (nomatch q), List.Pairwise.nil⟩, fun a ha b hb q => by cases List.mem_singleton.mp hb; exact hkg (by rw [q] at ha; exact ha)⟩
  · rcases List.mem_append.mp hm with q | q
    · exact Nat.le_succ_of_le (h.su m q)
    · cases List.mem_singleton.mp q; exact Nat.zero_le _
theorem GrOk.le {nds : List Nd} {g : Gr} {N M : Nat} (h : GrOk nds g N) (hm : N ≤ M) : GrOk nds g M := ⟨h.are, h.nd, Nat.le_trans h.len hm, fun n hn => Nat.le_trans (h.su n hn) hm⟩
theorem grOk_map {nds pre post : List Nd} {g : Gr} {N M : Nat} {n n' : Nd} {f : Int × List Str → Int × List Str} (h : GrOk nds g N) (hN : N ≤ M) (ha : NdsAre (pre ++ n' :: post) (mapAt g n.key f)) (hf : ∀ m : Int × List Str, m.2.length ≤ N → (f m).2.length ≤ M) : GrOk (pre ++ n' :: post) (mapAt g n.key f) M := by
  refine ⟨ha, by rw [mapAt_keys]; exact h.nd, by unfold mapAt; rw [List.length_map]; exact Nat.le_trans h.len hN, fun m hm => ?_⟩
  rcases mapAt_mem hm with q | ⟨m', hm', rfl⟩
  · exact Nat.le_trans (h.su m q) hN
  · exact hf _ (h.su m' hm')
/-- the node of a key, found or made -/
theorem sp_getG (w : World) (x dx D : Addr) (rd : Value) (po nf : Int) (g : Gr) (N : Nat) (hN : N ≤ 900) (k : Str) (t : Tok) (cs₀ : List HP) (h0 : SRT w x dx D rd po nf g N cs₀) :
    Spec w (KT w) 3 (.ref 110) ⟨[.ref x, .str k t], []⟩ (fun _ => True) cs₀ (fun v cs => E4 fun nds tpo tnf n => A5 (GrOk nds (gGet g k) (N + 1)) (n ∈ nds) (n.key = k) (v = .ref n.x) (cs = [TSO x dx D rd po tpo nf tnf, DCT w D (kvs nds), NDS nds])) := by
  obtain ⟨nds, tpo, tnf, hg, rfl⟩ := h0
  have hl := hg.are.length
  have hlen := hg.len
  refine (sp_getNi w x dx D rd po nf tpo tnf nds k t (by omega)).conv fun v cs₁ h p ok ap => ⟨cs₁, ?_, ok, ap, fun _ q => q⟩
  rcases p with ⟨n, hn, hk, rfl, rfl⟩ | ⟨hno, n, hk, hp, hs, rfl, rfl⟩
  · refine ⟨nds, tpo, tnf, n, ?_, hn, hk, rfl, rfl⟩
    rw [gGet_mem (by rw [← hg.are.keys, ← hk]; exact List.mem_map.mpr ⟨n, hn, rfl⟩)]
    exact hg.le (Nat.le_succ _)
  · exact ⟨nds ++ [n], tpo, tnf, n, grOk_get hg hno hk hp hs, List.mem_append_right _ (.head _), hk, rfl, rfl⟩
theorem G_lenT {w : World} {A : Around} {fm : Fm} {vs : Vals} {cs : List HP} {E : Value → Vals → List HP → Prop} {a : Addr} {xs : List Value} {Q : Value → Vals → List HP → Prop} (hl : ∀ s, Sit fm vs cs s → s.heap.IsTuple a xs.toArray) (hfit : (xs.length : Int) < 2 ^ 63) (h : ∀ t, Q (.int xs.length t) vs cs) : G w A fm (call (.builtin "len") [.ref a]) Q E vs cs := fun s S =>
  len_tuple (hl s S) (by rw [List.size_toArray]; exact hfit) (by rw [List.size_toArray]; exact ⟨vs, cs, S.toks _, h _⟩)
noncomputable abbrev ns_add : List Str := ["self", "node", "predecessors", "nodeinfo", "pred", "pred_info"]
noncomputable abbrev gs_add : List (Str × Value) := [("len", .builtin "len")]
theorem ok_add (w : World) : FnOk (KT w) 117 fd_add ns_add gs_add := fnOk_of (at_add w) (by kernel_rfl!)
theorem bv_add (w : World) (x : Addr) (k : Value) (pvs : List Value) (hp : pvs = [] ∨ ∃ v, pvs = [v]) : BindsV (KT w) fd_add ⟨.ref x :: k :: pvs, []⟩ (fun _ => True) (fun a => [("self", .ref x), ("node", k), ("predecessors", .ref a)]) (fun D => [TUP D pvs]) := by
  rcases hp with rfl | ⟨v, rfl⟩
  · exact BindsV.tup (bv := fun v => [("self", .ref x), ("node", k), ("predecessors", v)]) (szl (Nat.le_of_ble_eq_true rfl)) (by kernel_rfl!)
  · exact BindsV.tup (bv := fun v => [("self", .ref x), ("node", k), ("predecessors", v)]) (szl (Nat.le_of_ble_eq_true rfl)) (by kernel_rfl!)
theorem sp_add (w : World) (x dx D : Addr) (po nf : Int) (g : Gr) (N : Nat) (hN : N ≤ 800) (k : Str) (t : Tok) (pvs : List Value) (ps : List Str) (hs : Strs pvs ps) (hp : pvs = [] ∨ ∃ v, pvs = [v]) (cs₀ : List HP) (h0 : SRT w x dx D .none po nf g N cs₀) :
    Spec w (KT w) 4 (.ref 117) ⟨.ref x :: .str k t :: pvs, []⟩ (fun _ => True) cs₀ (fun v cs => v = .none ∧ SRT w x dx D .none po nf (gAdd g k ps) (N + 3) cs) := by
  intro gp
  have hpl : pvs.length ≤ 1 := by rcases hp with rfl | ⟨v, rfl⟩ <;> simp
  have hpl' := hs.length
  refine SpecP.of_bodyV (ok_add w) (by decide +kernel) rfl (bv_add w x (.str k t) pvs hp) (fun D => locs (by kernel_rfl!)) (vs₀ := fun D => [some (.ref x), some (.str k t), some (.ref D), none, none, none]) (fun D => ⟨rfl, rfl, rfl, trivial⟩) ?_
  intro A b L a hA T hB
  refine G_perm (cs' := cs₀ ++ [TUP a pvs]) List.perm_append_comm ?_
  generalize feet _ = F0
  obtain ⟨nds, tpo, tnf, hg, rfl⟩ := h0
  refine G_sub (cs' := [TSO x dx D .none po tpo nf tnf, DCT w D (kvs nds), NDS nds, TUP a pvs]) (.refl _) ?_
  refine letG ?_
  intro fm Q0
  refine G_cons ?_
  cell_end 5 0 0
  refine G_methI (cok_TS w) (f := 110) (by kernel_rfl!) (by kernel_rfl!) (by decide +kernel) ?_ (by rfl)
  cell_end 5 0 0
  refine ⟨x, dx, _, rfl, insAt (by cell_end 7 0 0), ?_⟩
  refine G_crS (by kernel_rfl!) ?_ (by k_dflt rfl)
  cell_end 5 0 0
  refine G_spec (cs₀ := [_, _, _]) (rest := [_]) (sp_getG w x dx D .none po nf g N (by omega) k t _ ⟨nds, tpo, tnf, hg, rfl⟩) hA (fun _ _ => trivial) ?_
  rintro v cs ⟨nds1, tpo1, tnf1, n, hg1, hn1, hk1, rfl, rfl⟩
  cell_end 1 0 0
  cell_end 1 0 0
  obtain ⟨pre, post, su, e1, hsu, hmem, hmap⟩ := hg1.are.at hg1.nd hn1
  subst e1
  refine G_sub (cs' := [TSO x dx D .none po tpo1 nf tnf1, DCT w D (kvs (pre ++ n :: post)), NDS (pre ++ n :: post), TUP a pvs]) (.refl _) ?_
  cell_end 5 0 0
  refine G_nd1 rfl (by cell_end 7 0 0) hn1 ?_
  cell_end 5 0 0
  refine G_lenT (sitTup (by cell_end 7 0 0)) (by omega) ?_
  intro _
  refine G_iaddI ?_
  intro tnp
  refine G_p2 ?_
  refine G_setNp rfl ?_
  have hkv : kvs (pre ++ { n with np := n.np + pvs.length, tn := tnp } :: post) = kvs (pre ++ n :: post) := by simp [kvs]
  have hg2 : GrOk (pre ++ { n with np := n.np + pvs.length, tn := tnp } :: post) (gBump (gGet g k) k ps.length) (N + 1) := by
    have := grOk_map (M := N + 1) (n' := { n with np := n.np + pvs.length, tn := tnp }) (f := fun m => (m.1 + ps.length, m.2)) hg1 (Nat.le_refl _) (hmap _ _ rfl ⟨su, hsu, by rw [hpl']⟩) fun m hm => hm
    rw [show mapAt (gGet g k) n.key (fun m => (m.1 + (ps.length : Int), m.2)) = mapAt (gGet g k) k (fun m => (m.1 + (ps.length : Int), m.2)) by rw [hk1]] at this
    exact this
  rw [← hkv]
  generalize (pre ++ { n with np := n.np + pvs.length, tn := tnp } :: post) = nds2 at hg2 ⊢
  refine Thn_next ?_
  refine G_perm (cs' := [TSO x dx D .none po tpo1 nf tnf1, DCT w D (kvs nds2), NDS nds2, TUP a pvs]) (List.perm_middle (l₁ := [_, _])) ?_
  cell_end 1 0 0
  refine G_For ?_
  cell_end 5 0 0
  let J1 : Nat → Vals → List HP → Prop := fun i vs cs => E5 fun nds tpo tnf v1 v2 => A3 (vs = [some (.ref x), some (.str k t), some (.ref a), some (.ref n.x), v1, v2]) (GrOk nds ((ps.take i).foldl (gPred k) (gBump (gGet g k) k ps.length)) (N + 1 + 2 * i)) (cs = [TSO x dx D .none po tpo nf tnf, DCT w D (kvs nds), NDS nds, TUP a pvs])
  refine ⟨_, _, _, J1, Src.tuple hA.handled a pvs, ⟨nds2, tpo1, tnf1, none, none, rfl, hg2, rfl⟩, ?_, ?_, ?_⟩
  · rintro i vs cs s ⟨nds, tpo, tnf, v1, v2, rfl, _, rfl⟩ S
    exact sitTup (by cell_end 7 0 0) s S
  · rintro i v vs cs X hi hv ⟨nds, tpo, tnf, v1, v2, rfl, hg, rfl⟩
    obtain ⟨p, u, hpx, rfl⟩ := hs.get hv
    have hi1 : i ≤ 1 := by omega
    have htk : ps.take (i + 1) = ps.take i ++ [p] := by rw [List.take_add_one, hpx]; rfl
    refine G_sub (cs' := [TSO x dx D .none po tpo nf tnf, DCT w D (kvs nds), NDS nds, TUP a pvs, X]) (.refl _) ?_
    cell_end 5 0 0
    refine G_methI (cok_TS w) (f := 110) (by kernel_rfl!) (by kernel_rfl!) (by decide +kernel) ?_ (by rfl)
    cell_end 5 0 0
    refine ⟨x, dx, _, rfl, insAt (by cell_end 7 0 0), ?_⟩
    refine G_crS (by kernel_rfl!) ?_ (by k_dflt rfl)
    cell_end 5 0 0
    refine G_spec (cs₀ := [_, _, _]) (rest := [_, _]) (sp_getG w x dx D .none po nf _ (N + 1 + 2 * i) (by omega) p u _ ⟨nds, tpo, tnf, hg, rfl⟩) hA (fun _ _ => trivial) ?_
    rintro v cs ⟨nds1, tpo1, tnf1, n1, hg1, hn1, hk1, rfl, rfl⟩
    cell_end 1 0 0
    cell_end 1 0 0
    obtain ⟨pre, post, su, e1, hsu, hmem, hmap⟩ := hg1.are.at hg1.nd hn1
    subst e1
    refine G_sub (cs' := [TSO x dx D .none po tpo1 nf tnf1, DCT w D (kvs (pre ++ n1 :: post)), NDS (pre ++ n1 :: post), TUP a pvs, X]) (.refl _) ?_
    cell_end 5 0 0
    cell_end 6 0 0
    cell_end 5 0 0
    refine G_nd2 rfl (by cell_end 7 0 0) hn1 ?_
    refine ⟨fun s S => ?_, ?_⟩
    · obtain ⟨ob, e, kk, rfl⟩ := (ndAt (nds := pre ++ n1 :: post) (.tail _ (.tail _ (.head _))) hn1 s S).2
      exact ⟨⟨_, e, rfl⟩, fun b q => by cases q; exact ⟨_, e, rfl⟩⟩
    cell_end 5 0 0
    refine G_p2 ?_
    have hsl := hg1.su _ hmem
    refine G_appSu (by rw [hsu.length]; exact szl (by have : su.length ≤ N + 1 + 2 * i + 1 := hsl; omega)) ?_
    refine ⟨fun _ q => (nomatch q), ?_⟩
    have hkv : kvs (pre ++ { n1 with su := n1.su ++ [.str k t] } :: post) = kvs (pre ++ n1 :: post) := by simp [kvs]
    have hg3 : GrOk (pre ++ { n1 with su := n1.su ++ [.str k t] } :: post) ((ps.take (i + 1)).foldl (gPred k) (gBump (gGet g k) k ps.length)) (N + 1 + 2 * (i + 1)) := by
      have := grOk_map (M := N + 1 + 2 * (i + 1)) (n' := { n1 with su := n1.su ++ [.str k t] }) (f := fun m => (m.1, m.2 ++ [k])) hg1 (by omega) (hmap _ _ rfl ⟨su ++ [k], hsu.append (.cons .nil), rfl⟩) fun m hm => by rw [List.length_append]; simp only [List.length_cons, List.length_nil]; omega
      rw [show ∀ G : Gr, mapAt G n1.key (fun m => (m.1, m.2 ++ [k])) = mapAt G p (fun m => (m.1, m.2 ++ [k])) from fun G => by rw [hk1]] at this
      rw [htk, List.foldl_append]
      exact this
    rw [← hkv]
    generalize (pre ++ { n1 with su := n1.su ++ [.str k t] } :: post) = nds3 at hg3 ⊢
    cell_end 5 0 0
    exact ⟨[TSO x dx D .none po tpo1 nf tnf1, DCT w D (kvs nds3), NDS nds3, TUP a pvs], List.perm_middle (l₁ := [_, _]), nds3, tpo1, tnf1, _, _, rfl, hg3, rfl⟩
  · rintro vs cs ⟨nds, tpo, tnf, v1, v2, rfl, hg, rfl⟩
    rw [hpl', List.take_length] at hg
    cell_end 5 0 0
    exact ⟨[TSO x dx D .none po tpo nf tnf, DCT w D (kvs nds), NDS nds], [TUP a pvs], .refl _, rfl, nds, tpo, tnf, hg.le (by omega), rfl⟩
end
end
section
open PySem PySem.W PyProof.Rows PySem.Calls
section
/-- a new part above all that stands -/
theorem Sit.growA {fm : Fm} {vs : Vals} {cs : List HP} {s : Shared} (S : Sit fm vs cs s) {c : HP} {h' : Heap} {t : Nat} (hk : ∀ a o, s.heap.get? a = some o → h'.get? a = some o) (hc : c.ok h') (hf : ∀ a ∈ c.foot, ∀ b o, s.heap.get? b = some o → b < a) : Sit fm vs (c :: cs) { s with heap := h', toks := t } := by
  have S1 : Sit fm vs ([] ++ cs) { s with heap := h', toks := t } := S.grow (cn := []) hk (fun _ q => (nomatch q)) List.Pairwise.nil
  obtain ⟨m, ⟨o, es, ep, ho, r⟩, ag⟩ := S.loc
  refine ⟨S1.fok, S1.gens, S1.os, S1.ext, S1.frs, S1.loc, fun d hd => ?_, List.pairwise_cons.mpr ⟨fun d hd a ha hb => ?_, S1.apart⟩⟩
  · cases hd with
    | head =>
      refine ⟨hc, fun a ha => .inr (Nat.le_trans S.fok.base (Nat.le_of_lt (hf a ha _ _ ho))), fun q => ?_⟩
      exact absurd (hf _ q _ _ ho) (Nat.lt_irrefl _)
    | tail _ hd => exact S1.own d hd
  · obtain ⟨o, ho⟩ := d.lt (S.own d hd).1 a hb
    exact absurd (hf a ha a o ho) (Nat.lt_irrefl _)
section
variable {w : World} {A : Around} {fm : Fm} {vs : Vals} {cs : List HP} {E : Value → Vals → List HP → Prop} {Q : Value → Vals → List HP → Prop}
/-- tuple(xs) of a list -/
theorem G_tupleL {a : Addr} {xs : List Value} (hl : ∀ s, Sit fm vs cs s → s.heap.IsList a xs.toArray) (hsz : xs.length ≤ sizeLine) (h : ∀ d, Q (.ref d) vs (TUP d xs :: cs)) : G w A fm (call (.type "tuple") [.ref a]) Q E vs cs := fun s S =>
  call_tuple_list (hl s S) (fun h' hk => ⟨vs, _, S.growA (t := s.toks) (c := TUP h'.objs.size xs) (fun _ _ e => Heap.get?_push_of_some _ (hk _ _ e)) ⟨_, Heap.get?_push_size _ rfl, 0, rfl⟩ (fun a ha b o e => by cases List.mem_singleton.mp ha; exact Heap.lt_size (hk _ _ e)), h _⟩) (by rw [List.size_toArray]; exact hsz)
theorem G_clear {a : Addr} {xs : List Value} (hsz : xs.length ≤ sizeLine) (h : Q .none vs (RAW a [] :: cs)) : G w A fm (call (.builtin "list.clear") [.ref a]) Q E vs (RAW a xs :: cs) := fun s S => by
  obtain ⟨ob, e, n, rfl⟩ := (S.own _ (.head _)).1
  refine call_meets F.slot_list_clear ⟨_, e, rfl⟩ F.entry_list_clear (F.args_list_clear_1 _) (AutoSeq1.list_clear_list_0 a xs.toArray n (by rw [List.size_toArray]; exact hsz)) ⟨e, ?_⟩
  exact ⟨vs, _, S.upd (c' := RAW a []) (t := s.toks) (.head _) (Heap.SameBut.update ..) (fun _ q => q) ⟨_, Heap.get?_update_self _ e rfl, _, rfl⟩, h⟩
theorem G_Or {e₁ e₂ : Expr} {rest : List Expr} {p : Pos} (h : G w A fm (eval e₁ fm.env) (fun v vs cs => G w A fm (truthy v) (fun c vs cs => bif c then Q v vs cs else G w A fm (eval (.BoolOp .Or (e₂ :: rest) p) fm.env) Q E vs cs) E vs cs) E vs cs) : G w A fm (eval (.BoolOp .Or (e₁ :: e₂ :: rest) p) fm.env) Q E vs cs := fun s S => by
  refine BoolOp_or (wpAny_mono (h s S) (fun v s₁ y => wpAny_mono (At.go y) (fun c s₂ y => ?_) fun _ _ x => x) fun _ _ x => x)
  obtain ⟨vs', cs', S', q⟩ := y
  cases c
  · rw [if_neg (by decide)]; exact q s₂ S'
  · rw [if_pos rfl]; exact ⟨vs', cs', S', q⟩
theorem G_Or1 {e : Expr} {op : BoolOp} {p : Pos} (h : G w A fm (eval e fm.env) Q E vs cs) : G w A fm (eval (.BoolOp op [e] p) fm.env) Q E vs cs := fun s S => BoolOp_one (h s S)
theorem G_truthyL {a : Addr} {xs : List Value} {Q : Bool → Vals → List HP → Prop} (hl : ∀ s, Sit fm vs cs s → s.heap.IsList a xs.toArray) (hfit : xs.length ≤ 1000000) (h : Q (!xs.isEmpty) vs cs) : G w A fm (truthy (.ref a)) Q E vs cs := fun s S =>
  wpAny_truthy_list (hl s S) (by rw [List.size_toArray]; omega) (by
    have : xs.toArray.isEmpty = xs.isEmpty := by cases xs <;> rfl
    rw [this]; exact ⟨vs, cs, S.toks _, h⟩)
theorem G_boolL {a : Addr} {xs : List Value} (hl : ∀ s, Sit fm vs cs s → s.heap.IsList a xs.toArray) (hfit : xs.length ≤ 1000000) (h : Q (.bool (!xs.isEmpty)) vs cs) : G w A fm (call (.type "bool") [.ref a]) Q E vs cs := fun s S => by
  have e0 : xs.toArray.isEmpty = xs.isEmpty := by cases xs <;> rfl
  refine call_bool_1 (S := fun A R s' => ∃ it, s'.heap.IsList a it ∧ (it.size : Int) < 2 ^ 63 ∧ R (.ok (.ret (.bool (!it.isEmpty)))) { s' with toks := s'.toks + 1 + 1 }) (Meets.of_wp fun prog w A R s' ⟨it, hl, hf, hs⟩ => ?_) ⟨xs.toArray, hl s S, by rw [List.size_toArray]; omega, ?_⟩
  · obtain ⟨hp, g, d, tk, os⟩ := s'
    have f1 := F.conv_sub_bool
    repeat (any_goals (first | assumption | (with_reducible refine wpAny_truthy_list hl hf ?_) | wp_step))
    all_goals first | exact ⟨_, rfl, hs⟩ | exact hs | skip
  · show wants _ _ _ _
    rw [e0]
    exact ⟨rfl, vs, cs, S.toks _, h⟩
end
end
end
section
open PySem PySem.W PyProof.Rows PySem.Calls
section
/-- a sorter that was prepared -/
noncomputable def RUN (w : World) (x dx D ra : Addr) (po nf : Int) (g : Gr) (N : Nat) (rdl : List Str) (cs : List HP) : Prop := E4 fun nds tpo tnf rvs => A3 (GrOk nds g N) (Strs rvs rdl) (cs = [TSO x dx D (.ref ra) po tpo nf tnf, DCT w D (kvs nds), NDS nds, RAW ra rvs])
noncomputable abbrev ns_isActive : List Str := ["self"]
noncomputable abbrev gs_isActive : List (Str × Value) := [("bool", .type "bool")]
theorem ok_isActive (w : World) : FnOk (KT w) 136 fd_isActive ns_isActive gs_isActive := fnOk_of (at_isActive w) (by kernel_rfl!)
theorem sp_isActive (w : World) (x dx D ra : Addr) (po nf : Int) (g : Gr) (N : Nat) (rdl : List Str) (hr : rdl.length ≤ 1000) (cs₀ : List HP) (h0 : RUN w x dx D ra po nf g N rdl cs₀) :
    Spec w (KT w) 1 (.ref 136) ⟨[.ref x], []⟩ (fun _ => True) cs₀ (fun v cs => v = .bool (decide (nf < po) || !rdl.isEmpty) ∧ cs = cs₀) := by
  obtain ⟨nds, tpo, tnf, rvs, hg, hs, rfl⟩ := h0
  have hl := hs.length
  refine Spec.of_body (ok_isActive w) (by decide +kernel) rfl (binds := [("self", .ref x)]) (fun s _ _ => BindsTo.of_eq (by kernel_rfl!)) (locs (by kernel_rfl!)) (vs₀ := [some (.ref x)]) ⟨rfl, trivial⟩ ?_
  intro gp A b hA T hB
  generalize feet _ = F0
  refine letG ?_
  intro fm Q0
  refine G_cons ?_
  cell_end 5 0 0
  refine G_Or ?_
  cell_end 5 0 0
  refine G_ltI ?_
  cell_end 5 0 0
  refine bif_s (fun h1 => ?_) (fun h1 => ?_)
  · cell_end 5 0 0
    exact Out.all ⟨by rw [h1, Bool.true_or], rfl⟩
  · refine G_Or1 ?_
    cell_end 5 0 0
    refine G_boolL (sitRaw (by cell_end 7 0 0)) (by omega) ?_
    have e : rvs.isEmpty = rdl.isEmpty := by cases hs <;> rfl
    rw [e]
    cell_end 5 0 0
    exact Out.all ⟨by rw [h1, Bool.false_or], rfl⟩
noncomputable abbrev ns_tsBool : List Str := ["self"]
theorem ok_tsBool (w : World) : FnOk (KT w) 143 fd_tsBool ns_tsBool [] := fnOk_of (at_tsBool w) (by kernel_rfl!)
theorem sp_tsBool (w : World) (x dx D ra : Addr) (po nf : Int) (g : Gr) (N : Nat) (rdl : List Str) (hr : rdl.length ≤ 1000) (cs₀ : List HP) (h0 : RUN w x dx D ra po nf g N rdl cs₀) :
    Spec w (KT w) 2 (.ref 143) ⟨[.ref x], []⟩ (fun _ => True) cs₀ (fun v cs => v = .bool (decide (nf < po) || !rdl.isEmpty) ∧ cs = cs₀) := by
  have h0' := h0
  obtain ⟨nds, tpo, tnf, rvs, hg, hs, rfl⟩ := h0
  refine Spec.of_body (ok_tsBool w) (by decide +kernel) rfl (binds := [("self", .ref x)]) (fun s _ _ => BindsTo.of_eq (by kernel_rfl!)) (locs (by kernel_rfl!)) (vs₀ := [some (.ref x)]) ⟨rfl, trivial⟩ ?_
  intro gp A b hA T hB
  generalize feet _ = F0
  refine letG ?_
  intro fm Q0
  refine G_cons ?_
  cell_end 5 0 0
  refine G_methI (cok_TS w) (f := 136) (by kernel_rfl!) (by kernel_rfl!) (by decide +kernel) ?_ (by rfl)
  cell_end 5 0 0
  refine ⟨x, dx, _, rfl, insAt (by cell_end 7 0 0), ?_⟩
  refine G_crS0 (by kernel_rfl!) ?_
  refine G_spec (cs₀ := [_, _, _, _]) (rest := []) (sp_isActive w x dx D ra po nf g N rdl hr _ h0') hA (fun _ _ => trivial) ?_
  rintro v cs ⟨rfl, rfl⟩
  cell_end 1 0 0
  exact Out.all ⟨rfl, by rw [List.append_nil]⟩
noncomputable def gSet (g : Gr) (k : Str) (d : Int) : Gr := mapAt g k fun n => (d, n.2)
noncomputable abbrev ns_getReady : List Str := ["self", "result", "n2i", "node"]
noncomputable abbrev gs_getReady : List (Str × Value) := [("tuple", .type "tuple"), ("len", .builtin "len"), ("_NODE_OUT", .int (-1) 346)]
theorem ok_getReady (w : World) : FnOk (KT w) 129 fd_getReady ns_getReady gs_getReady := fnOk_of (at_getReady w) (by kernel_rfl!)
theorem val_in {nds : List Nd} {g : Gr} (h : NdsAre nds g) {k : Str} (hk : k ∈ keysOf g) : ∃ n ∈ nds, n.key = k ∧ valueAt (kvs nds) k = some (.ref n.x) := by
  rcases val_cases nds k with q | ⟨q, _⟩
  · exact q
  · rw [← h.keys] at hk
    obtain ⟨n, hn, e⟩ := List.mem_map.mp hk
    exact absurd e (q n hn)
theorem kvs_swap {pre post : List Nd} {n n' : Nd} (h1 : n'.key = n.key) (h2 : n'.x = n.x) : kvs (pre ++ n' :: post) = kvs (pre ++ n :: post) := by simp [kvs, h1, h2]
theorem gSet_keys (g : Gr) (k : Str) (d : Int) : keysOf (gSet g k d) = keysOf g := mapAt_keys ..
theorem gSets_keys (g : Gr) (d : Int) (l : List Str) : keysOf (l.foldl (fun g k => gSet g k d) g) = keysOf g := by
  induction l generalizing g with
  | nil => rfl
  | cons k l ih => rw [List.foldl_cons, ih, gSet_keys]
set_option maxHeartbeats 1000000 in
theorem sp_getReady (w : World) (x dx D ra : Addr) (po nf : Int) (g : Gr) (N : Nat) (rdl : List Str) (hr : rdl.length ≤ 1000) (hrk : ∀ k ∈ rdl, k ∈ keysOf g) (cs₀ : List HP) (h0 : RUN w x dx D ra po nf g N rdl cs₀) :
    Spec w (KT w) 1 (.ref 129) ⟨[.ref x], []⟩ (fun _ => True) cs₀ (fun v cs => E3 fun d rvs cs₁ => A4 (v = .ref d) (Strs rvs rdl) (cs = TUP d rvs :: cs₁) (RUN w x dx D ra (po + rdl.length) nf (rdl.foldl (fun g k => gSet g k (-1)) g) N [] cs₁)) := by
  obtain ⟨nds, tpo, tnf, rvs, hg, hs, rfl⟩ := h0
  have hl := hs.length
  refine Spec.of_body (ok_getReady w) (by decide +kernel) rfl (binds := [("self", .ref x)]) (fun s _ _ => BindsTo.of_eq (by kernel_rfl!)) (locs (by kernel_rfl!)) (vs₀ := [some (.ref x), none, none, none]) ⟨rfl, trivial⟩ ?_
  intro gp A b hA T hB
  generalize feet _ = F0
  refine letG ?_
  intro fm Q0
  refine G_cons ?_
  cell_end 5 0 0
  refine G_tupleL (sitRaw (by cell_end 7 0 0)) (szl (by omega)) ?_
  intro d
  cell_end 5 0 0
  refine G_For ?_
  cell_end 5 0 0
  let J1 : Nat → Vals → List HP → Prop := fun i vs cs => E2 fun nds nv => A3 (vs = [some (.ref x), some (.ref d), some (.ref D), nv]) (GrOk nds ((rdl.take i).foldl (fun g k => gSet g k (-1)) g) N) (cs = [TUP d rvs, TSO x dx D (.ref ra) po tpo nf tnf, DCT w D (kvs nds), NDS nds, RAW ra rvs])
  refine ⟨_, _, _, J1, Src.tuple hA.handled d rvs, ⟨nds, none, rfl, hg, rfl⟩, ?_, ?_, ?_⟩
  · rintro i vs cs s ⟨nds, nv, rfl, _, rfl⟩ S
    exact sitTup (.head _) s S
  · rintro i v vs cs X hi hv ⟨nds, nv, rfl, hg, rfl⟩
    obtain ⟨k, u, hkx, rfl⟩ := hs.get hv
    have htk : rdl.take (i + 1) = rdl.take i ++ [k] := by rw [List.take_add_one, hkx]; rfl
    obtain ⟨n, hn, hk, hval⟩ := val_in hg.are (k := k) (by rw [gSets_keys]; exact hrk k (List.mem_of_getElem? hkx))
    obtain ⟨pre, post, su, e1, hsu, hmem, hmap⟩ := hg.are.at hg.nd hn
    subst e1
    refine G_sub (cs' := [TUP d rvs, TSO x dx D (.ref ra) po tpo nf tnf, DCT w D (kvs (pre ++ n :: post)), NDS (pre ++ n :: post), RAW ra rvs, X]) (.refl _) ?_
    cell_end 5 0 0
    refine G_ditem (dctAt (by cell_end 7 0 0)) hval ?_
    refine G_p3 ?_
    refine G_setNp rfl ?_
    have hg2 : GrOk (pre ++ { n with np := -1, tn := 346 } :: post) ((rdl.take (i + 1)).foldl (fun g k => gSet g k (-1)) g) N := by
      have := grOk_map (M := N) (n' := { n with np := -1, tn := 346 }) (f := fun m => (-1, m.2)) hg (Nat.le_refl _) (hmap _ _ rfl ⟨su, hsu, rfl⟩) fun m hm => hm
      rw [show ∀ G : Gr, mapAt G n.key (fun m => ((-1 : Int), m.2)) = mapAt G k (fun m => ((-1 : Int), m.2)) from fun G => by rw [hk]] at this
      rw [htk, List.foldl_append]
      exact this
    rw [← kvs_swap (pre := pre) (post := post) (n := n) (n' := { n with np := -1, tn := 346 }) rfl rfl]
    generalize (pre ++ { n with np := -1, tn := 346 } :: post) = nds3 at hg2 ⊢
    cell_end 5 0 0
    exact ⟨[TUP d rvs, TSO x dx D (.ref ra) po tpo nf tnf, DCT w D (kvs nds3), NDS nds3, RAW ra rvs], List.perm_middle (l₁ := [_, _, _]), nds3, _, rfl, hg2, rfl⟩
  · rintro vs cs ⟨nds, nv, rfl, hg, rfl⟩
    rw [hl, List.take_length] at hg
    cell_end 5 0 0
    refine G_m0 F.slot_list_clear F.type_list_clear F.plainAttrs_list ?_ (by k_dflt rfl) (by k_dflt rfl)
    cell_end 5 0 0
    refine ⟨rawTy (by cell_end 7 0 0), ?_⟩
    refine G_p4 ?_
    refine G_clear (szl (by omega)) ?_
    refine ⟨fun _ q => (nomatch q), ?_⟩
    cell_end 5 0 0
    refine G_lenT (sitTup (by cell_end 7 0 0)) (by omega) ?_
    intro _
    refine G_iaddI ?_
    intro tpo2
    refine G_p2 ?_
    rw [hl]
    cell_end 5 0 0
    refine ⟨[TUP d rvs, TSO x dx D (.ref ra) (po + rdl.length) tpo2 nf tnf, DCT w D (kvs nds), NDS nds, RAW ra []], [], ?_, d, rvs, _, rfl, hs, rfl, nds, tpo2, tnf, [], hg, .nil, rfl⟩
    exact (List.Perm.swap _ _ _).trans (.cons _ (List.perm_middle (l₁ := [_, _, _])))
end
end
section
open PySem PySem.W PyProof.Rows PySem.Calls
section
noncomputable def npOf (g : Gr) (k : Str) : Int := ((g.find? fun n => decide (n.1 = k)).map (·.2.1)).getD 0
noncomputable def suOf (g : Gr) (k : Str) : List Str := ((g.find? fun n => decide (n.1 = k)).map (·.2.2)).getD []
theorem find_mem {g : Gr} (nd : (keysOf g).Nodup) {n : Str × Int × List Str} (h : n ∈ g) : g.find? (fun m => decide (m.1 = n.1)) = some n := by
  induction g with
  | nil => cases h
  | cons m r ih =>
    have hn := List.nodup_cons.mp nd
    cases h with
    | head => rw [List.find?_cons_of_pos (by simp)]
    | tail _ h =>
      have hne : m.1 ≠ n.1 := fun q => hn.1 (by show m.1 ∈ _; rw [q]; exact List.mem_map.mpr ⟨n, h, rfl⟩)
      rw [List.find?_cons_of_neg (by simpa using hne), ih hn.2 h]
theorem np_mem {g : Gr} (nd : (keysOf g).Nodup) {k : Str} {np : Int} {su : List Str} (h : (k, np, su) ∈ g) : npOf g k = np := by unfold npOf; rw [find_mem nd h]; rfl
theorem su_mem {g : Gr} (nd : (keysOf g).Nodup) {k : Str} {np : Int} {su : List Str} (h : (k, np, su) ∈ g) : suOf g k = su := by unfold suOf; rw [find_mem nd h]; rfl
theorem find_mapAt (g : Gr) (k j : Str) (f : Int × List Str → Int × List Str) : (mapAt g k f).find? (fun n => decide (n.1 = j)) = (g.find? fun n => decide (n.1 = j)).map fun n => if n.1 = k then (n.1, f n.2) else n := by
  induction g with
  | nil => rfl
  | cons m r ih =>
    have e : mapAt (m :: r) k f = (if m.1 = k then (m.1, f m.2) else m) :: mapAt r k f := rfl
    have e1 : (if m.1 = k then (m.1, f m.2) else m).1 = m.1 := by split <;> rfl
    rw [e]
    by_cases h : m.1 = j
    · rw [List.find?_cons_of_pos (by rw [e1]; simpa using h), List.find?_cons_of_pos (by simpa using h)]; rfl
    · rw [List.find?_cons_of_neg (by rw [e1]; simpa using h), List.find?_cons_of_neg (by simpa using h), ih]
theorem find_key {g : Gr} {k : Str} {n : Str × Int × List Str} (h : g.find? (fun m => decide (m.1 = k)) = some n) : n.1 = k := by
  have := List.find?_some h
  simpa using this
theorem find_some {g : Gr} {k : Str} (h : k ∈ keysOf g) : ∃ n, g.find? (fun m => decide (m.1 = k)) = some n := by
  obtain ⟨n, hn, e⟩ := List.mem_map.mp h
  cases hf : g.find? (fun m => decide (m.1 = k)) with
  | some n => exact ⟨n, rfl⟩
  | none =>
    have := List.find?_eq_none.mp hf n hn
    simp [e] at this
theorem np_set {g : Gr} {k : Str} (hk : k ∈ keysOf g) (d : Int) (j : Str) : npOf (gSet g k d) j = if j = k then d else npOf g j := by
  unfold npOf gSet
  rw [find_mapAt]
  by_cases h : j = k
  · subst h
    obtain ⟨n, hn⟩ := find_some hk
    rw [if_pos rfl, hn]
    show ((some (if n.1 = j then (n.1, (d, n.2.2)) else n)).map _).getD 0 = d
    rw [if_pos (find_key hn)]; rfl
  · rw [if_neg h]
    cases hf : g.find? (fun m => decide (m.1 = j)) with
    | none => rfl
    | some n =>
      show ((some (if n.1 = k then (n.1, (d, n.2.2)) else n)).map _).getD 0 = _
      rw [if_neg (fun q => h (by rw [← find_key hf]; exact q))]
theorem np_bump {g : Gr} {k : Str} (hk : k ∈ keysOf g) (d : Int) (j : Str) : npOf (gBump g k d) j = if j = k then npOf g k + d else npOf g j := by
  unfold npOf gBump
  rw [find_mapAt]
  by_cases h : j = k
  · subst h
    obtain ⟨n, hn⟩ := find_some hk
    rw [if_pos rfl, hn]
    show ((some (if n.1 = j then (n.1, (n.2.1 + d, n.2.2)) else n)).map _).getD 0 = _
    rw [if_pos (find_key hn)]; rfl
  · rw [if_neg h]
    cases hf : g.find? (fun m => decide (m.1 = j)) with
    | none => rfl
    | some n =>
      show ((some (if n.1 = k then (n.1, (n.2.1 + d, n.2.2)) else n)).map _).getD 0 = _
      rw [if_neg (fun q => h (by rw [← find_key hf]; exact q))]
theorem su_map (g : Gr) (k j : Str) (f : Int × List Str → Int × List Str) (hf : ∀ m, (f m).2 = m.2) : suOf (mapAt g k f) j = suOf g j := by
  unfold suOf
  rw [find_mapAt]
  cases g.find? (fun m => decide (m.1 = j)) with
  | none => rfl
  | some n =>
    show ((some (if n.1 = k then (n.1, f n.2) else n)).map _).getD [] = _
    split
    · show (f n.2).2 = n.2.2; rw [hf]
    · rfl
theorem su_set (g : Gr) (k j : Str) (d : Int) : suOf (gSet g k d) j = suOf g j := su_map _ _ _ _ fun _ => rfl
theorem su_bump (g : Gr) (k j : Str) (d : Int) : suOf (gBump g k d) j = suOf g j := su_map _ _ _ _ fun _ => rfl
theorem bump_keys (g : Gr) (k : Str) (d : Int) : keysOf (gBump g k d) = keysOf g := mapAt_keys ..
noncomputable def decr (st : Gr × List Str) (s : Str) : Gr × List Str := (gBump st.1 s (-1), if npOf (gBump st.1 s (-1)) s = 0 then st.2 ++ [s] else st.2)
noncomputable def done1 (st : Gr × List Str) (k : Str) : Gr × List Str := (suOf st.1 k).foldl decr (gSet st.1 k (-2), st.2)
theorem decrs_keys (l : List Str) (st : Gr × List Str) : keysOf (l.foldl decr st).1 = keysOf st.1 := by
  induction l generalizing st with
  | nil => rfl
  | cons s l ih => rw [List.foldl_cons, ih]; exact bump_keys ..
theorem decrs_su (l : List Str) (st : Gr × List Str) (j : Str) : suOf (l.foldl decr st).1 j = suOf st.1 j := by
  induction l generalizing st with
  | nil => rfl
  | cons s l ih => rw [List.foldl_cons, ih]; exact su_bump ..
theorem decrs_np {l : List Str} {st : Gr × List Str} (hk : ∀ s ∈ l, s ∈ keysOf st.1) {j : Str} (hj : j ∉ l) : npOf (l.foldl decr st).1 j = npOf st.1 j := by
  induction l generalizing st with
  | nil => rfl
  | cons s l ih =>
    rw [List.foldl_cons, ih (fun x hx => by show x ∈ keysOf (gBump st.1 s (-1)); rw [bump_keys]; exact hk x (.tail _ hx)) fun q => hj (.tail _ q)]
    show npOf (gBump st.1 s (-1)) j = _
    rw [np_bump (hk s (.head _)), if_neg (fun q : j = _ => hj (by rw [q]; exact .head _))]
theorem decrs_len (l : List Str) (st : Gr × List Str) : (l.foldl decr st).2.length ≤ st.2.length + l.length := by
  induction l generalizing st with
  | nil => exact Nat.le_refl _
  | cons s l ih =>
    rw [List.foldl_cons]
    refine Nat.le_trans (ih _) ?_
    have : (decr st s).2.length ≤ st.2.length + 1 := by
      unfold decr
      dsimp only
      split
      · simp
      · omega
    simp only [List.length_cons]; omega
theorem dones_keys (l : List Str) (st : Gr × List Str) : keysOf (l.foldl done1 st).1 = keysOf st.1 := by
  induction l generalizing st with
  | nil => rfl
  | cons s l ih => rw [List.foldl_cons, ih]; unfold done1; rw [decrs_keys]; exact gSet_keys ..
theorem dones_su (l : List Str) (st : Gr × List Str) (j : Str) : suOf (l.foldl done1 st).1 j = suOf st.1 j := by
  induction l generalizing st with
  | nil => rfl
  | cons s l ih => rw [List.foldl_cons, ih]; unfold done1; rw [decrs_su]; exact su_set ..
/-- what is out stays out till its turn comes -/
theorem dones_np {l : List Str} {st : Gr × List Str} (hk : ∀ k ∈ l, k ∈ keysOf st.1) (hc : ∀ k ∈ l, ∀ s ∈ suOf st.1 k, s ∈ keysOf st.1) {j : Str} (hj : j ∉ l) (hs : ∀ k ∈ l, j ∉ suOf st.1 k) : npOf (l.foldl done1 st).1 j = npOf st.1 j := by
  induction l generalizing st with
  | nil => rfl
  | cons k l ih =>
    have ek : keysOf (done1 st k).1 = keysOf st.1 := by unfold done1; rw [decrs_keys]; exact gSet_keys ..
    have es : ∀ x, suOf (done1 st k).1 x = suOf st.1 x := fun x => by unfold done1; rw [decrs_su]; exact su_set ..
    rw [List.foldl_cons, ih (fun x hx => by rw [ek]; exact hk x (.tail _ hx)) (fun x hx s q => by rw [ek]; rw [es] at q; exact hc x (.tail _ hx) s q) (fun q => hj (.tail _ q)) fun x hx q => hs x (.tail _ hx) (by rw [es] at q; exact q)]
    unfold done1
    rw [decrs_np (fun s q => by show s ∈ keysOf (gSet st.1 k (-2)); rw [gSet_keys]; exact hc k (.head _) s q) (hs k (.head _))]
    show npOf (gSet st.1 k (-2)) j = _
    rw [np_set (hk k (.head _)), if_neg (fun q : j = _ => hj (by rw [q]; exact .head _))]
end
end
section
open PySem PySem.W PyProof.Rows PySem.Calls
section
noncomputable abbrev ns_done : List Str := ["self", "nodes", "n2i", "node", "nodeinfo", "stat", "successor", "successor_info"]
noncomputable abbrev gs_done : List (Str × Value) := [("_NODE_OUT", .int (-1) 346), ("_NODE_DONE", .int (-2) 349)]
theorem ok_done (w : World) : FnOk (KT w) 150 fd_done ns_done gs_done := fnOk_of (at_done w) (by kernel_rfl!)
theorem bv_done (w : World) (x : Addr) (nvs : List Value) (hn : nvs.length ≤ 1000) : BindsV (KT w) fd_done ⟨.ref x :: nvs, []⟩ (fun _ => True) (fun a => [("self", .ref x), ("nodes", .ref a)]) (fun D => [TUP D nvs]) := by
  refine BindsV.tup (bv := fun v => [("self", .ref x), ("nodes", v)]) (szl (by omega)) ?_
  cases nvs with
  | nil => kernel_rfl!
  | cons v r => kernel_rfl!
theorem ndList {fm : Fm} {vs : Vals} {cs : List HP} {nds : List Nd} {n : Nd} (hm : NDS nds ∈ cs) (hn : n ∈ nds) : ∀ s, Sit fm vs cs s → s.heap.IsList n.la n.su.toArray := fun s S => RAW.list (ndAt hm hn s S).2
theorem grOk_np {pre post : List Nd} {g : Gr} {N : Nat} {n n' : Nd} {su : List Str} {f : Int × List Str → Int × List Str} {k : Str} (h : GrOk (pre ++ n :: post) g N) (hk : n.key = k) (hmap : ∀ n' f, n'.key = n.key → (∃ su', Strs n'.su su' ∧ f (n.np, su) = (n'.np, su')) → NdsAre (pre ++ n' :: post) (mapAt g n.key f)) (hn : n'.key = n.key) (hs : Strs n'.su su) (hf : f (n.np, su) = (n'.np, su)) (hf2 : ∀ m, (f m).2 = m.2) : GrOk (pre ++ n' :: post) (mapAt g k f) N := by
  have := grOk_map (M := N) (n' := n') (f := f) h (Nat.le_refl _) (hmap _ _ hn ⟨su, hs, hf⟩) fun m hm => by rw [hf2]; exact hm
  rw [hk] at this; exact this
theorem sp_done (w : World) (x dx D ra : Addr) (po nf : Int) (g : Gr) (N : Nat) (rdl l : List Str) (nvs : List Value) (hs : Strs nvs l) (hN : N ≤ 900) (hr : rdl.length ≤ 1000) (hl : l.length ≤ 1000) (hlk : ∀ k ∈ l, k ∈ keysOf g) (hc : ∀ k ∈ l, ∀ s ∈ suOf g k, s ∈ keysOf g) (ho : ∀ k ∈ l, npOf g k = -1) (hnd : l.Nodup) (hsep : ∀ k ∈ l, ∀ j ∈ l, j ∉ suOf g k) (cs₀ : List HP) (h0 : RUN w x dx D ra po nf g N rdl cs₀) :
    Spec w (KT w) 1 (.ref 150) ⟨.ref x :: nvs, []⟩ (fun _ => True) cs₀ (fun v cs => v = .none ∧ RUN w x dx D ra po (nf + l.length) (l.foldl done1 (g, rdl)).1 N (l.foldl done1 (g, rdl)).2 cs) := by
  intro gp
  obtain ⟨nds, tpo, tnf, rvs, hg, hrs, rfl⟩ := h0
  have hln := hs.length
  refine SpecP.of_bodyV (ok_done w) (by decide +kernel) rfl (bv_done w x nvs (by omega)) (fun D => locs (by kernel_rfl!)) (vs₀ := fun a => [some (.ref x), some (.ref a), none, none, none, none, none, none]) (fun a => ⟨rfl, rfl, trivial⟩) ?_
  intro A b L a hA T hB
  generalize feet _ = F0
  refine G_sub (cs' := [TUP a nvs, TSO x dx D (.ref ra) po tpo nf tnf, DCT w D (kvs nds), NDS nds, RAW ra rvs]) (.refl _) ?_
  refine letG ?_
  intro fm Q0
  refine G_cons ?_
  cell_end 5 0 0
  refine G_For ?_
  cell_end 5 0 0
  let J1 : Nat → Vals → List HP → Prop := fun i vs cs => E8 fun nds tnf rvs v1 v2 v3 v4 v5 => A5 (vs = [some (.ref x), some (.ref a), some (.ref D), v1, v2, v3, v4, v5]) (GrOk nds ((l.take i).foldl done1 (g, rdl)).1 N) (Strs rvs ((l.take i).foldl done1 (g, rdl)).2) (rvs.length ≤ 1000 + i * 900) (cs = [TUP a nvs, TSO x dx D (.ref ra) po tpo (nf + i) tnf, DCT w D (kvs nds), NDS nds, RAW ra rvs])
  refine ⟨_, _, _, J1, Src.tuple hA.handled a nvs, ⟨nds, tnf, rvs, none, none, none, none, none, rfl, hg, hrs, by have := hrs.length; omega, by simp⟩, ?_, ?_, ?_⟩
  · rintro i vs cs s ⟨nds, tnf, rvs, v1, v2, v3, v4, v5, rfl, _, _, _, rfl⟩ S
    exact sitTup (.head _) s S
  · rintro i v vs cs X hi hv ⟨nds, tnf, rvs, v1, v2, v3, v4, v5, rfl, hg, hrs, hrl, rfl⟩
    obtain ⟨k, u, hkx, rfl⟩ := hs.get hv
    have htk : l.take (i + 1) = l.take i ++ [k] := by rw [List.take_add_one, hkx]; rfl
    have hkl : k ∈ l := List.mem_of_getElem? hkx
    have hkt : k ∉ l.take i := fun q => by
      have hd := hnd
      rw [← List.take_append_drop (i + 1) l, htk] at hd
      have := (List.nodup_append.mp (List.nodup_append.mp hd).1).2.2 k q k (.head _)
      exact this rfl
    have hsub : ∀ j ∈ l.take i, j ∈ l := fun j hj => List.mem_of_mem_take hj
    have hnp : npOf ((l.take i).foldl done1 (g, rdl)).1 k = -1 := by
      rw [dones_np (fun j hj => hlk j (hsub j hj)) (fun j hj => hc j (hsub j hj)) hkt fun j hj => hsep j (hsub j hj) k hkl]
      exact ho k hkl
    have hsu0 : suOf ((l.take i).foldl done1 (g, rdl)).1 k = suOf g k := dones_su ..
    have hky : keysOf ((l.take i).foldl done1 (g, rdl)).1 = keysOf g := dones_keys ..
    have hfold : (l.take (i + 1)).foldl done1 (g, rdl) = done1 ((l.take i).foldl done1 (g, rdl)) k := by rw [htk, List.foldl_append]; rfl
    generalize (l.take i).foldl done1 (g, rdl) = st at hg hrs hnp hsu0 hky hfold
    obtain ⟨n, hn, hk, hval⟩ := val_in hg.are (k := k) (by rw [hky]; exact hlk k hkl)
    obtain ⟨pre, post, su, e1, hsu, hmem, hmap⟩ := hg.are.at hg.nd hn
    rw [hk] at hmem
    have hnpn : n.np = -1 := by rw [← np_mem hg.nd hmem]; exact hnp
    have hsun : suOf st.1 k = su := su_mem hg.nd hmem
    subst e1
    refine G_sub (cs' := [TUP a nvs, TSO x dx D (.ref ra) po tpo (nf + i) tnf, DCT w D (kvs (pre ++ n :: post)), NDS (pre ++ n :: post), RAW ra rvs, X]) (.refl _) ?_
    cell_end 5 0 0
    refine G_Named ?_
    refine G_m1 F.slot_dict_get F.type_dict_get F.plainAttrs_dict ?_ (by k_dflt rfl) (by k_dflt rfl) (by k_dflt rfl)
    cell_end 5 0 0
    refine ⟨dctTy (by cell_end 7 0 0), ?_⟩
    cell_end 5 0 0
    refine G_dget (dctAt (by cell_end 7 0 0)) ?_
    rw [hval, Option.getD_some]
    cell_end 5 0 0
    refine G_nd1 rfl (by cell_end 7 0 0) hn ?_
    cell_end 5 0 0
    refine G_neI ?_
    rw [hnpn, show ((-1 : Int) != -1) = false from rfl]
    cell_end 5 0 0
    refine G_p3 ?_
    refine G_setNp rfl ?_
    have hg2 : GrOk (pre ++ { n with np := -2, tn := 349 } :: post) (gSet st.1 k (-2)) N := grOk_np (n' := { n with np := -2, tn := 349 }) (f := fun m => (-2, m.2)) hg hk hmap rfl hsu rfl fun _ => rfl
    rw [← kvs_swap (pre := pre) (post := post) (n := n) (n' := { n with np := -2, tn := 349 }) rfl rfl]
    have hn2 : { n with np := -2, tn := 349 } ∈ pre ++ { n with np := -2, tn := 349 } :: post := List.mem_append_right _ (.head _)
    generalize (pre ++ ({ n with np := -2, tn := 349 } : Nd) :: post) = nds2 at hg2 hn2 ⊢
    cell_end 1 0 0
    refine G_perm (cs' := [TUP a nvs, TSO x dx D (.ref ra) po tpo (nf + i) tnf, DCT w D (kvs nds2), NDS nds2, RAW ra rvs, X]) (List.perm_middle (l₁ := [_, _, _])) ?_
    have hsl : su.length ≤ 900 := Nat.le_trans (hg.su _ hmem) hN
    have hsucs : ∀ s ∈ su, s ∈ keysOf g := fun s hs => hc k hkl s (by rw [← hsu0, hsun]; exact hs)
    cell_end 1 0 0
    let R2 : Vals → List HP → Prop := fun vs cs => E5 fun nds tnf rvs v4 v5 => A5 (vs = [some (.ref x), some (.ref a), some (.ref D), some (.str k u), some (.ref n.x), some (.int (-1) n.tn), v4, v5]) (GrOk nds (su.foldl decr (gSet st.1 k (-2), st.2)).1 N) (Strs rvs (su.foldl decr (gSet st.1 k (-2), st.2)).2) (rvs.length ≤ 1000 + i * 900 + su.length) (cs = [TUP a nvs, TSO x dx D (.ref ra) po tpo (nf + i) tnf, DCT w D (kvs nds), NDS nds, RAW ra rvs, X])
    refine G_midT R2 ?_ ?_
    · refine G_For ?_
      cell_end 5 0 0
      refine G_nd2 (n := { n with np := -2, tn := 349 }) rfl (by cell_end 7 0 0) hn2 ?_
      let J3 : Nat → Vals → List HP → Prop := fun j vs cs => E5 fun nds rvs v4 v5 n' => A8 (vs = [some (.ref x), some (.ref a), some (.ref D), some (.str k u), some (.ref n.x), some (.int (-1) n.tn), v4, v5]) (GrOk nds ((su.take j).foldl decr (gSet st.1 k (-2), st.2)).1 N) (Strs rvs ((su.take j).foldl decr (gSet st.1 k (-2), st.2)).2) (n' ∈ nds) (n'.la = n.la) (n'.su = n.su) (rvs.length ≤ 1000 + i * 900 + j) (cs = [TUP a nvs, TSO x dx D (.ref ra) po tpo (nf + i) tnf, DCT w D (kvs nds), NDS nds, RAW ra rvs, X])
      refine ⟨_, _, _, J3, Src.list hA.handled n.la n.su, ⟨nds2, rvs, _, _, _, rfl, hg2, hrs, hn2, rfl, rfl, by omega, rfl⟩, ?_, ?_, ?_⟩
      · rintro j vs cs s ⟨nds, rvs, v4, v5, n', rfl, _, _, hn', e1, e2, _, rfl⟩ S
        rw [← e1, ← e2]
        exact ndList (.tail _ (.tail _ (.tail _ (.head _)))) hn' s S
      · rintro j v vs cs Y hj hv ⟨nds, rvs, v4, v5, n', rfl, hg, hrs, hn', e1, e2, hrl', rfl⟩
        obtain ⟨s, us, hsx, rfl⟩ := hsu.get hv
        have htk : su.take (j + 1) = su.take j ++ [s] := by rw [List.take_add_one, hsx]; rfl
        have hjl : j < su.length := (List.getElem?_eq_some_iff.mp hsx).1
        have hky2 : keysOf ((su.take j).foldl decr (gSet st.1 k (-2), st.2)).1 = keysOf g := by rw [decrs_keys]; show keysOf (gSet st.1 k (-2)) = _; rw [gSet_keys, hky]
        have hfold2 : (su.take (j + 1)).foldl decr (gSet st.1 k (-2), st.2) = decr ((su.take j).foldl decr (gSet st.1 k (-2), st.2)) s := by rw [htk, List.foldl_append]; rfl
        generalize (su.take j).foldl decr (gSet st.1 k (-2), st.2) = st2 at hg hrs hky2 hfold2 ⊢
        have hsk : s ∈ keysOf st2.1 := by rw [hky2]; exact hsucs s (List.mem_of_getElem? hsx)
        obtain ⟨m, hm, hmk, hval⟩ := val_in hg.are (k := s) hsk
        obtain ⟨pre, post, sm, e3, hsm, hmem2, hmap2⟩ := hg.are.at hg.nd hm
        rw [hmk] at hmem2
        have hnpm : npOf st2.1 s = m.np := np_mem hg.nd hmem2
        subst e3
        refine G_sub (cs' := [TUP a nvs, TSO x dx D (.ref ra) po tpo (nf + i) tnf, DCT w D (kvs (pre ++ m :: post)), NDS (pre ++ m :: post), RAW ra rvs, X, Y]) (.refl _) ?_
        cell_end 5 0 0
        refine G_ditem (dctAt (by cell_end 7 0 0)) hval ?_
        cell_end 5 0 0
        refine G_nd1 rfl (by cell_end 7 0 0) hm ?_
        cell_end 5 0 0
        refine G_isubI ?_
        intro tm
        refine G_p3 ?_
        refine G_setNp rfl ?_
        have hg3 : GrOk (pre ++ { m with np := m.np - 1, tn := tm } :: post) (gBump st2.1 s (-1)) N := grOk_np (n' := { m with np := m.np - 1, tn := tm }) (f := fun q => (q.1 + (-1), q.2)) hg hmk hmap2 rfl hsm rfl fun _ => rfl
        have hnp3 : npOf (gBump st2.1 s (-1)) s = m.np - 1 := by rw [np_bump hsk, if_pos rfl, hnpm]; rfl
        have hn3 : ∃ n'', A3 (n'' ∈ pre ++ ({ m with np := m.np - 1, tn := tm } : Nd) :: post) (n''.la = n.la) (n''.su = n.su) := by
          rcases List.mem_append.mp hn' with q | q
          · exact ⟨n', List.mem_append_left _ q, e1, e2⟩
          · cases q with
            | head => exact ⟨_, List.mem_append_right _ (.head _), e1, e2⟩
            | tail _ q => exact ⟨n', List.mem_append_right _ (.tail _ q), e1, e2⟩
        have hm3 : ({ m with np := m.np - 1, tn := tm } : Nd) ∈ pre ++ ({ m with np := m.np - 1, tn := tm } : Nd) :: post := List.mem_append_right _ (.head _)
        rw [← kvs_swap (pre := pre) (post := post) (n := m) (n' := { m with np := m.np - 1, tn := tm }) rfl rfl]
        generalize (pre ++ ({ m with np := m.np - 1, tn := tm } : Nd) :: post) = nds3 at hg3 hn3 hm3 ⊢
        obtain ⟨n'', hn'', e1', e2'⟩ := hn3
        cell_end 5 0 0
        refine G_nd1 (n := { m with np := m.np - 1, tn := tm }) rfl (by cell_end 7 0 0) hm3 ?_
        cell_end 5 0 0
        refine G_eqI ?_
        cell_end 5 0 0
        refine bif_s (fun h1 => ?_) (fun h1 => ?_)
        · have hz : m.np - 1 = 0 := beq_iff_eq.mp h1
          have hd : decr st2 s = (gBump st2.1 s (-1), st2.2 ++ [s]) := by unfold decr; rw [if_pos (hnp3.trans hz)]
          cell_end 5 0 0
          cell_end 6 0 0
          cell_end 5 0 0
          refine ⟨rawTy (by cell_end 7 0 0), ?_⟩
          cell_end 5 0 0
          refine G_p4 ?_
          refine G_appendR (szl (by omega)) ?_
          refine ⟨fun _ q => (nomatch q), ?_⟩
          cell_end 5 0 0
          refine ⟨[TUP a nvs, TSO x dx D (.ref ra) po tpo (nf + i) tnf, DCT w D (kvs nds3), NDS nds3, RAW ra (rvs ++ [.str s us]), X], ?_, nds3, rvs ++ [.str s us], _, _, n'', rfl, by rw [hfold2, hd]; exact hg3, by rw [hfold2, hd]; exact hrs.append (.cons .nil), hn'', e1', e2', by rw [List.length_append]; simp only [List.length_cons, List.length_nil]; omega, rfl⟩
          exact (List.perm_middle (l₁ := [_, _, _, _])).trans (.cons _ (List.perm_middle (l₁ := [_, _, _])))
        · have hz : m.np - 1 ≠ 0 := beq_eq_false_iff_ne.mp h1
          have hd : decr st2 s = (gBump st2.1 s (-1), st2.2) := by unfold decr; rw [if_neg (by rw [hnp3]; exact hz)]
          cell_end 5 0 0
          exact ⟨[TUP a nvs, TSO x dx D (.ref ra) po tpo (nf + i) tnf, DCT w D (kvs nds3), NDS nds3, RAW ra rvs, X], List.perm_middle (l₁ := [_, _, _]), nds3, rvs, _, _, n'', rfl, by rw [hfold2, hd]; exact hg3, by rw [hfold2, hd]; exact hrs, hn'', e1', e2', by omega, rfl⟩
      · rintro vs cs ⟨nds, rvs, v4, v5, n', rfl, hg, hrs, hn', e1, e2, hrl', rfl⟩
        rw [hsu.length] at hrl'
        rw [hsu.length, List.take_length] at hg hrs
        exact ⟨rfl, nds, tnf, rvs, v4, v5, rfl, hg, hrs, hrl', rfl⟩
    · rintro vs cs ⟨nds, tnf', rvs, v4, v5, rfl, hg, hrs, hrl', rfl⟩
      have hd1 : done1 st k = su.foldl decr (gSet st.1 k (-2), st.2) := by unfold done1; rw [hsun]
      cell_end 5 0 0
      refine G_iaddI ?_
      intro tnf2
      refine G_p1 ?_
      cell_end 5 0 0
      refine ⟨[TUP a nvs, TSO x dx D (.ref ra) po tpo (nf + i + 1) tnf2, DCT w D (kvs nds), NDS nds, RAW ra rvs], .swap _ _ _, nds, tnf2, rvs, _, _, _, _, _, rfl, by rw [hfold, hd1]; exact hg, by rw [hfold, hd1]; exact hrs, by omega, ?_⟩
      rw [show nf + ((i + 1 : Nat) : Int) = nf + i + 1 by omega]
  · rintro vs cs ⟨nds, tnf, rvs, v1, v2, v3, v4, v5, rfl, hg, hrs, hrl, rfl⟩
    rw [hln, List.take_length] at *
    cell_end 5 0 0
    exact ⟨_, [TUP a nvs], List.perm_append_comm (l₂ := [TUP a nvs]), rfl, nds, tpo, tnf, rvs, hg, hrs, rfl⟩
end
end
section
open PySem PySem.W PyProof.Rows PySem.Calls Builtin
section
noncomputable abbrev liO (a : Value) (i : Int) (t : Tok) : Obj := { cls := .type "list_iterator", data := .fields #[a, .int i t] }
noncomputable abbrev mwO (I : Addr) : Obj := { cls := .type "method-wrapper", data := .fields #[.builtin "list_iterator.__next__", .ref I] }
theorem slot_li_ga : Slot "list_iterator" "__getattribute__" "object.__getattribute__" :=
  .of (owner := "object") (n := "__getattribute__") (by rw [typeLookup_type, builtinLookup_eq_fast]; kernel_rfl) (by decide +kernel) (by decide +kernel) (by decide +kernel)
    (by first | exact .inl (by decide +kernel) | exact .inr (by decide +kernel)) (by rw [isSubtype_type]; kernel_rfl)
theorem slot_wd_get : Slot "wrapper_descriptor" "__get__" "wrapper_descriptor.__get__" :=
  .of (owner := "wrapper_descriptor") (n := "__get__") (by rw [typeLookup_type, builtinLookup_eq_fast]; kernel_rfl) (by decide +kernel) (by decide +kernel) (by decide +kernel)
    (by first | exact .inl (by decide +kernel) | exact .inr (by decide +kernel)) (by rw [isSubtype_type]; kernel_rfl)
theorem noset_wd : typeLookup (.type "wrapper_descriptor") "__set__" = pure none := by rw [typeLookup_type, builtinLookup_eq_fast]; kernel_rfl
theorem nodel_wd : typeLookup (.type "wrapper_descriptor") "__delete__" = pure none := by rw [typeLookup_type, builtinLookup_eq_fast]; kernel_rfl
theorem entry_oga : entryFor table "object.__getattribute__" = some Builtin.«object.__getattribute__» := entryFor_of_tree (by kernel_rfl)
theorem entry_wdget : entryFor table "wrapper_descriptor.__get__" = some Builtin.«wrapper_descriptor.__get__» := entryFor_of_tree (by kernel_rfl)
theorem args_oga (a b : Value) : argsOk "object.__getattribute__" ⟨[a, b], []⟩ := by unfold argsOk; kernel_rfl
theorem args_wdget (a b c : Value) : argsOk "wrapper_descriptor.__get__" ⟨[a, b, c], []⟩ := by unfold argsOk; kernel_rfl
theorem typeOf_linext : typeOf (.builtin "list_iterator.__next__") = pure (.type "wrapper_descriptor") := by kernel_rfl
theorem owner_linext : (".".intercalate ("list_iterator.__next__".cutAt '.').dropLast) = "list_iterator" := by
  have e0 : "list_iterator.__next__".cutAt '.' = ["list_iterator", "__next__"] := by first | rfl | decide +kernel
  rw [e0]; decide +kernel
theorem sub_li_owner : isSubtype (.type "list_iterator") (.type (".".intercalate ("list_iterator.__next__".cutAt '.').dropLast)) = pure true := by
  rw [owner_linext, isSubtype_type]; kernel_rfl
variable {w : World} {A : Around} {E : Value → Shared → Prop} {h : Heap} {g : Array GenState} {d : Drawn} {t : Nat} {os : OsState} {I : Addr} {o : Obj}
theorem next_get {R : Result → Shared → Prop} (hx : h.get? I = some o) (hc : o.cls = .type "list_iterator") (hq : R (.ok (.ret (.ref h.objs.size))) ⟨h.push (mwO I), g, d, t, os⟩) :
    codeAny (MD w) A (.call (.builtin "wrapper_descriptor.__get__") ⟨[.builtin "list_iterator.__next__", .ref I, .type "list_iterator"], []⟩) R ⟨h, g, d, t, os⟩ := by
  have hT : (⟨h, g, d, t, os⟩ : Shared).TypeIs (.ref I) "list_iterator" := ⟨_, hx, hc⟩
  have hT5 : (⟨h, g, d, t, os⟩ : Shared).TypeIs (.builtin "list_iterator.__next__") "wrapper_descriptor" := typeOf_linext
  have f8 := sub_li_owner
  refine codeAny_call_builtin slot_wd_get.plain entry_wdget (slot_wd_get.check _ _ _ _ _ _ _ _ hT5 (args_wdget _ _ _) ?_)
  repeat (any_goals (first | assumption | wp_step))
theorem next_entry {tk tj : Tok} {a : Value} {i : Int} {Q : Fin → Shared → Prop} (hx : h.get? I = some (liO a i tj)) (hq : Q (.done (.ret (.ref h.objs.size))) ⟨h.push (mwO I), g, d, t, os⟩) :
    wpAny (MD w) A (Builtin.«object.__getattribute__» ⟨[.ref I, .str "__next__" tk], []⟩) Q E ⟨h, g, d, t, os⟩ := by
  have hT : (⟨h, g, d, t, os⟩ : Shared).TypeIs (.ref I) "list_iterator" := ⟨_, hx, rfl⟩
  have hT5 : (⟨h, g, d, t, os⟩ : Shared).TypeIs (.builtin "list_iterator.__next__") "wrapper_descriptor" := typeOf_linext
  have f4 := _root_.PySem.slot_listiter_next.lookup
  have f5 := typeOf_linext
  have f6 := slot_wd_get.lookup
  have f7 := noset_wd
  have f8 := nodel_wd
  repeat (any_goals (first | assumption | wp_step))
  refine next_get hx rfl ?_
  repeat (any_goals (first | assumption | wp_step))
theorem next_call {tk tj : Tok} {a : Value} {i : Int} {R : Result → Shared → Prop} (hx : h.get? I = some (liO a i tj)) (hq : R (.ok (.ret (.ref h.objs.size))) ⟨h.push (mwO I), g, d, t, os⟩) :
    codeAny (MD w) A (.call (.builtin "object.__getattribute__") ⟨[.ref I, .str "__next__" tk], []⟩) R ⟨h, g, d, t, os⟩ :=
  codeAny_call_builtin slot_li_ga.plain entry_oga (slot_li_ga.check _ _ _ _ _ _ _ _ (show (⟨h, g, d, t, os⟩ : Shared).TypeIs (.ref I) "list_iterator" from ⟨_, hx, rfl⟩) (args_oga _ _) (next_entry hx hq))
theorem next_by {tk tj : Tok} {a : Value} {i : Int} {ex : Bool} {Q : Value → Shared → Prop} (hx : h.get? I = some (liO a i tj)) (hq : Q (.ref h.objs.size) ⟨h.push (mwO I), g, d, t, os⟩) : wpAny (MD w) A (getAttrBy (.ref I) (.str "__next__" tk) true ex) Q E ⟨h, g, d, t, os⟩ := by
  have hT : (⟨h, g, d, t, os⟩ : Shared).TypeIs (.ref I) "list_iterator" := ⟨_, hx, rfl⟩
  have f2 := slot_li_ga.lookup
  have f3 := slot_li_ga.bind (.ref I)
  repeat (any_goals (first | assumption | wp_step))
  rw [if_neg (by simp [onTheHeap])]
  repeat (any_goals (first | assumption | wp_step))
  refine next_call hx ?_
  repeat (any_goals (first | assumption | wp_step))
theorem bindNext {tj : Tok} {a : Value} {i : Int} {ex : Bool} {s : Shared} {Q : Value → Shared → Prop} (hx : s.heap.get? I = some (liO a i tj)) (hq : Q (.ref s.heap.objs.size) { s with heap := s.heap.push (mwO I), toks := s.toks + 1 }) : wpAny (MD w) A (getAttr (.ref I) "__next__" ex) Q E s := by
  obtain ⟨hh, g, d, tk, os⟩ := s
  unfold getAttr
  repeat (any_goals (first | assumption | with_reducible apply next_by hx | wp_step))
end
end
section
open PySem PySem.W PyProof.Rows PySem.Calls Builtin
section
theorem check_linext {I : Addr} : checkBoundCall "list_iterator.__next__" ⟨[.ref I], []⟩ = pure () := by first | kernel_rfl | rfl
theorem quiet_linext {I : Addr} : (Code.builtin "list_iterator.__next__" ⟨[.ref I], []⟩).quiet := Code.quiet_builtin _ (by decide +kernel)
variable {w : World} {A : Around} {E : Value → Shared → Prop} {s : Shared} {I W l : Addr}
theorem callMw {Q : Value → Shared → Prop} (hW : s.heap.get? W = some (mwO I))
    (h : wpAny (MD w) A.in1 (Builtin.«list_iterator.__next__» ⟨[.ref I], []⟩) (fun fin s' => match fin with | .done (.ret v) => Q v s' | _ => False) E s) : wpAny (MD w) A (call (.ref W) []) Q E s := by
  refine wpAny_call (codeAny_of_tree ?_)
  show wpAny _ A.in1 (callAny (.ref W) ⟨[], []⟩) _ _ s
  simp only [callAny]
  refine wpAny_bind (wpAny_load hW ?_)
  simp only [show (Value.type "method-wrapper" == Value.type "method" || Value.type "method-wrapper" == Value.type "builtin_function_or_method" || Value.type "method-wrapper" == Value.type "method-wrapper") = true by decide, if_true]
  refine if_so (by decide) ?_
  refine wpAny_bind (wpAny_of_eq (a := ()) check_linext ?_)
  refine wpAny_bind (wpAny_pure (wpAny_pure ?_))
  refine ⟨quiet_linext, codeAny_builtin _root_.PySem.entry_listiter_next (wpAny_mono h (fun fin s' z => ?_) fun _ _ z => z)⟩
  rcases fin with (_ | _ | _ | _) | _ <;> first | exact z | exact z.elim
theorem callNext_item {i : Nat} {items : Array Value} {x : Value} {Q : Value → Shared → Prop} (hW : s.heap.get? W = some (mwO I)) (hit : s.heap.IsListIter I l i) (hl : s.heap.IsList l items) (hx : items[i]? = some x)
    (hQ : ∀ h', h'.IsListIter I l (i + 1) → Heap.SameBut I s.heap h' → Q x { s with heap := h' }) : wpAny (MD w) A (call (.ref W) []) Q E s := by
  refine callMw hW ?_
  obtain ⟨o, ho, hc, hd⟩ := id hit
  obtain ⟨ol, hol, _, nl, hdl⟩ := hl
  show wpAny _ _ (field (.ref I) 0 >>= _) _ _ s
  refine wpAny_bind (wpAny_field ho hd (x := .ref l) rfl ?_)
  show wpAny _ _ (if (Value.ref l == Value.none) = true then _ else _) _ _ s
  rw [if_neg (show ¬ ((Value.ref l == Value.none) = true) from Bool.false_ne_true)]
  show wpAny _ _ (field (.ref I) 1 >>= _) _ _ s
  refine wpAny_bind (wpAny_field ho hd (x := .int i 0) rfl ?_)
  show wpAny _ _ (seqItems? (.ref l) >>= _) _ _ s
  refine wpAny_bind (wpAny_seqItems hol hdl ?_)
  simp only [Int.toNat_natCast, hx]
  refine wpAny_bind (wpAny_setField ho hd (by simp) (wpAny_pure (hQ _ ?_ (Heap.SameBut.update ..))))
  exact ⟨_, Heap.get?_update_self _ ho (Obj.isFreed_of_fields (Obj.data_mapFields hd _)), (Obj.cls_mapFields ..).trans hc, by
    rw [Obj.data_mapFields hd]; simp [rawInt]⟩
theorem callNext_end {i : Nat} {items : Array Value} {Q : Value → Shared → Prop} (hh : A.handled = none) (hW : s.heap.get? W = some (mwO I)) (hit : s.heap.IsListIter I l i) (hl : s.heap.IsList l items) (hx : items[i]? = none)
    (hQ : ∀ h₁ h' e, Heap.SameBut I s.heap h₁ → (∃ o, h₁.get? I = some o ∧ o.cls = .type "list_iterator") → NewX h₁ h' e (.type "StopIteration") → E (.ref e) { s with heap := h' }) : wpAny (MD w) A (call (.ref W) []) Q E s := by
  refine callMw hW ?_
  obtain ⟨o, ho, hc, hd⟩ := id hit
  obtain ⟨ol, hol, _, nl, hdl⟩ := hl
  show wpAny _ _ (field (.ref I) 0 >>= _) _ _ s
  refine wpAny_bind (wpAny_field ho hd (x := .ref l) rfl ?_)
  show wpAny _ _ (if (Value.ref l == Value.none) = true then _ else _) _ _ s
  rw [if_neg (show ¬ ((Value.ref l == Value.none) = true) from Bool.false_ne_true)]
  show wpAny _ _ (field (.ref I) 1 >>= _) _ _ s
  refine wpAny_bind (wpAny_field ho hd (x := .int i 0) rfl ?_)
  show wpAny _ _ (seqItems? (.ref l) >>= _) _ _ s
  refine wpAny_bind (wpAny_seqItems hol hdl ?_)
  simp only [Int.toNat_natCast, hx]
  refine wpAny_bind (wpAny_rule (wpAny_bind (wpAny_setField ho hd (by simp) ?_)))
  show wpAny _ _ (newExc (.type "StopIteration") [] >>= _) _ _ _
  refine wpAny_bind ?_
  simp only [newExc, newTuple]
  refine wpAny_bind (wpAny_newObj_type ?_ (by size_fits))
  refine wpAny_bind (m := firstArgMember _ _) (wpAny_of_eq (a := Value.none) (by first | rfl | (simp only [firstArgMember]; rfl)) ?_)
  refine wpAny_newObj_type ?_ (by size_fits)
  simp only [raiseNew]
  refine wpAny_bind (wpAny_handled ?_)
  rw [show A.in1.handled = none from hh]
  refine wpAny_bind (wpAny_pure (wpAny_throw ?_))
  refine hQ _ _ _ (Heap.SameBut.update ..) ⟨_, Heap.get?_update_self _ ho (Obj.isFreed_of_fields (Obj.data_mapFields hd _)), (Obj.cls_mapFields ..).trans hc⟩ ⟨fun b o' q => Heap.get?_push_of_some _ (Heap.get?_push_of_some _ q), ?_, _, _, Heap.get?_push_size _ rfl, rfl, rfl, ?_⟩
  · generalize s.heap.update I _ = h₁
    cases q : h₁.get? (h₁.push { cls := .type "tuple", data := .seq #[] }).objs.size with
    | none => rfl
    | some o' => exact absurd (Heap.lt_size (Heap.get?_push_of_some _ q)) (Nat.lt_irrefl _)
  · first | rfl | kernel_rfl
end
end
section
open PySem PySem.W PyProof.Rows PySem.Calls
section
/-- an exception that was just made is noted where a try stands -/
theorem note_new {w : World} {A : Around} {fm : Fm} {vs : Vals} {cs : List HP} {s : Shared} {h' : Heap} {e : Addr} {C : Value} {outer : List Env} {E : Value → Shared → Prop} {Q : Unit → Shared → Prop} (S : Sit fm vs cs s) (hf : fm.env.frame = some fm.env.locals) (hA : A.frames = some (fm.env :: outer)) (hk : ∀ e ∈ fm.env :: outer, e.scope.kind ≠ .module ∧ ∃ L, e.frame = some L) (hfr : fm.fr = frOf A) (X : NewX s.heap h' e C)
    (h : ∀ h'' T, Sit fm vs cs { s with heap := h'' } → Thrown C e T fm.F cs fm.b { s with heap := h'' } → Q () { s with heap := h'' }) : wpAny (MD w) A (noteFrame (.ref e) fm.env) (fun _ s₂ => wpAny (MD w) A (setFlight (.ref e) none) Q E s₂) E { s with heap := h' } := by
  have hfr' : fm.fr = (fm.env :: outer).filterMap (·.frame) := by rw [hfr]; unfold frOf; rw [hA]; rfl
  have hL : fm.env.locals ∈ fm.fr := by rw [hfr', List.filterMap_cons, hf]; exact .head _
  obtain ⟨base, b1, b2, b3⟩ := without fm.fr s.heap
  obtain ⟨oe, vs', he, hc, hd, h1⟩ := X.there
  have hst : base.StaysIn h' := fun a o q => by
    by_cases ha : a ∈ fm.fr
    · rw [b1 a ha] at q; cases q
    · exact X.keeps a o ((b2 a ha) ▸ q)
  have hen : base.get? e = none := by
    by_cases ha : e ∈ fm.fr
    · exact b1 e ha
    · rw [b2 e ha]; exact X.new
  have hl : h'.FunFrames base (fm.env :: outer) := funFrames (K := fm.K) hk (fun a ha => b1 a (hfr' ▸ ha)) fun a ha => by
    obtain ⟨_, o, es, ep, ho, hd⟩ := S.frH a (hfr' ▸ ha)
    exact ⟨o, es, ep, X.keeps a o ho, hd⟩
  unfold noteFrame
  simp only [hf]
  refine wpAny_bind (wpAny_field (s := { s with heap := h' }) he hd h1 ?_)
  rw [if_neg (by decide)]
  refine wpAny_newEntry (s := { s with heap := h' }) hA hl hf he hst hen hd (Array.getElem?_eq_some_iff.mp h1).1 fun h'' ⟨k1, k2, k3, k4⟩ => ?_
  have kfr : ∀ a o, a ∈ fm.fr → s.heap.get? a = some o → ∃ sl, h''.get? a = some { o with slots := sl } := fun a o ha ho => by
    obtain ⟨_, o', es, ep, ho', hd'⟩ := S.frH a ha
    rw [ho] at ho'; cases ho'
    exact k4 a o (X.keeps a o ho) fun vs q => by rw [hd'] at q; cases q
  have kk : ∀ a o, a ∉ fm.fr → s.heap.get? a = some o → h''.get? a = some o := fun a o ha ho => k1 a o ((b2 a ha).trans ho)
  obtain ⟨oe', vs'', T, oT, ts, g1, g2, g3, g4, g5, g6, g7, g8, g9⟩ := k3
  have S' : Sit fm vs cs { s with heap := h'' } := S.passed (t := s.toks) hL (fun a o ha ho _ => kk a o ha ho) kfr
  refine h h'' T S' ⟨⟨oe', vs'', oT, ts, g1, g2.trans hc, g3, g4, g6, g7, g8, g9⟩, fun c hc => ⟨fun q => ?_, fun q => ?_⟩, fun a o ho haF => ?_⟩
  · obtain ⟨o, ho⟩ := c.lt (S.own c hc).1 e q
    rw [X.new] at ho; cases ho
  · obtain ⟨o, ho⟩ := c.lt (S.own c hc).1 T q
    have : base.get? T = some o := (b2 T (S.frOff hc q).1).trans ho
    rw [g5] at this; cases this
  · have key : ∀ x, base.get? x = none → (∃ ox vx, h''.get? x = some ox ∧ ox.data = .fields vx) → a ≠ x := fun x hx ⟨ox, vx, h1, h2⟩ q => by
      subst q
      by_cases ha : a ∈ fm.fr
      · obtain ⟨o', es, ep, sl, f1, f2, f3⟩ := S'.frs a ha (Nat.ne_of_lt (Nat.lt_of_lt_of_le (Heap.lt_size ho) S.fok.base))
        have f3 : h''.get? a = some { o' with slots := sl } := f3
        rw [h1] at f3; cases f3
        rw [f2] at h2; cases h2
      · have := S.ext a o ho haF ha
        rw [← b2 a ha, hx] at this; cases this
    exact ⟨key e hen ⟨oe', vs'', g1, g3⟩, key T g5 ⟨oT, ts, g7, g8⟩⟩
theorem Sit.touch {fm : Fm} {vs : Vals} {cs : List HP} {s : Shared} (S : Sit fm vs cs s) {T : Addr} {h'' : Heap} (hsame : ∀ b, b ≠ T → h''.get? b = s.heap.get? b) (h1 : ∀ c ∈ cs, T ∉ c.foot) (h2 : ∀ a o, fm.b.heap.get? a = some o → a ∉ fm.F → a ≠ T) {oT : Obj} {ts : Array Value} (hT : s.heap.get? T = some oT) (hd : oT.data = .fields ts) : Sit fm vs cs { s with heap := h'' } := by
  obtain ⟨m, ⟨o, es, ep, ho, r⟩, ag⟩ := S.loc
  have hl : fm.env.locals ≠ T := fun q => by
    rw [q, hT] at ho
    cases ho
    rw [hd] at r
    exact absurd r.1 (by simp)
  refine ⟨S.fok, S.gens, S.os, fun a o e q q' => (hsame a (h2 a o e q)).trans (S.ext a o e q q'), fun a ha hn => ?_, ⟨m, ⟨o, es, ep, (hsame _ hl).trans ho, r⟩, ag⟩, fun c hc => ?_, S.apart⟩
  · obtain ⟨o, es, ep, sl, h1, h2, h3⟩ := S.frs a ha hn
    refine ⟨o, es, ep, sl, h1, h2, (hsame a fun q => ?_).trans h3⟩
    rw [q, hT] at h3
    cases h3
    rw [h2] at hd; cases hd
  · obtain ⟨p1, p2, p3⟩ := S.own c hc
    exact ⟨c.loc (fun a ha => hsame a fun q => h1 c hc (q ▸ ha)) p1, p2, p3⟩
/-- the frame on top is known -/
noncomputable def FrT (A : Around) (env : Env) : Prop := ∃ outer, A.frames = some (env :: outer) ∧ ∀ e ∈ env :: outer, e.scope.kind ≠ .module ∧ ∃ L, e.frame = some L
/-- an exception was just made, and then R -/
noncomputable def NowX (fm : Fm) (C : Value) (R : Vals → List HP → Prop) (e : Value) (s' : Shared) : Prop :=
  ∃ a vs' cs' s₁ h', e = .ref a ∧ s' = { s₁ with heap := h' } ∧ Sit fm vs' cs' s₁ ∧ NewX s₁.heap h' a C ∧ R vs' cs'
theorem exc_stop : isSubtype (.type "StopIteration") (.type "BaseException") = pure true := by rw [isSubtype_type]; kernel_rfl
theorem nt_stop : isSubtype (.type ((Manifest.find? "StopIteration").elim "type" fun x => x.metatype)) (.type "tuple") = pure false := by
  rw [show ((Manifest.find? "StopIteration").elim "type" fun x => x.metatype) = "type" by decide +kernel, isSubtype_type]; kernel_rfl
theorem sub_stopT : isSubtype (.type "StopIteration") (.type "StopIteration") = pure true := by rw [isSubtype_type]; kernel_rfl
theorem G_TryStop {w : World} {A : Around} {fm : Fm} {vs : Vals} {cs : List HP} {body suite : List Stmt} {b₀ : Stmt} {p p' pos : Pos} {Q : Flow → Vals → List HP → Prop} (R : Vals → List HP → Prop)
    (hA : FrT A fm.env) (hf : fm.env.frame = some fm.env.locals) (hfr : fm.fr = frOf A) (g : In2 fm.gs "StopIteration" (.type "StopIteration"))
    (h : GX w A fm (execs body fm.env) Q (NowX fm (.type "StopIteration") R) vs cs)
    (hs : ∀ e vs cs, R vs cs → G w (A.mark (some e)) fm (execs (b₀ :: suite) fm.env) Q NoE vs cs) :
    G w A fm (exec (.Try body [.ExceptHandler (some (.Name "StopIteration" p)) none (b₀ :: suite) p'] [] [] pos) fm.env) Q NoE vs cs := fun s S => by
  refine wpAny_Try_except (wpAny_mono (h s S) (fun f s₁ x => ?_) fun e s₁ x => ?_)
  · obtain ⟨v, c, S', q⟩ := x
    cases f <;> first | exact ⟨v, c, S', q⟩ | exact wpAny_execs_nil ⟨v, c, S', q⟩
  · obtain ⟨a, v, c, s₂, h', rfl, rfl, S', X, r⟩ := x
    obtain ⟨outer, hA, hk⟩ := hA
    refine note_new S' hf hA hk hfr X fun h'' T S'' th => ?_
    obtain ⟨oe, ves, oT, ts, g1, g2, g3, g4, g5, g6, g7, g8⟩ := th.tr
    refine wpAny_handleBy_builtin (X := "StopIteration") (T := "StopIteration") (b := true) exc_stop nt_stop sub_stopT (raw_Glob S'' g ⟨rfl, ⟨oe, g1, g2⟩, ?_⟩)
    rw [if_pos rfl]
    have h3 : 3 < ts.size := (Array.getElem?_eq_some_iff.mp g8).1
    refine wpAny_setFlight_none g1 g3 g4 g6 g7 h3 ?_
    have S3 := S''.touch (h'' := h''.update T (Obj.mapFields (·.setIfInBounds 3 .none))) (fun b hb => Heap.get?_update_other _ _ (Ne.symm hb)) (fun c' hc => (th.offC c' hc).2) (fun a' o' q q' => (th.offO a' o' q q').2) g6 g7
    refine wpAny_mono (hs _ v c r _ S3) (fun _ _ z => z) fun _ _ ⟨_, _, _, z⟩ => z.elim
/-- as SpecX.of_body; the frame on top is known -/
theorem SpecX.of_bodyF {gp : GP} {w : World} {K : Frag} {k : Nat} {f : Addr} {fd : FuncData} {ns : List Str} {gs : List (Str × Value)} {args : Args} {B : Heap → Prop} {cs₀ : List HP} {Post : Value → List HP → Prop} {C : Value} {PE : List HP → Prop} {body : List Stmt} {binds : List (Str × Value)} {vs₀ : Vals}
    (ok : FnOk K f fd ns gs) (hcell : ∀ x ∈ fd.scope.names, x.2 ≠ .cell) (hb : fd.body = .stmts body) (hbind : ∀ s, TP K s.heap → B s.heap → BindsTo s fd args binds) (hloc : ∀ x ∈ binds, fd.scope.names.lookup x.1 = some .local)
    (hv : Agree ns vs₀ (fun x => binds.reverse.lookup x))
    (h : ∀ A b, Rm A k → FrA A → FrT A (callEnv fd b.heap.objs.size f) → TP K b.heap → B b.heap → GX w A ⟨K, feet cs₀, b, callEnv fd b.heap.objs.size f, ns, gs, gp, frOf A⟩ (execs body (callEnv fd b.heap.objs.size f)) (Out Post) (ThrowNow ⟨K, feet cs₀, b, callEnv fd b.heap.objs.size f, ns, gs, gp, frOf A⟩ C PE) vs₀ cs₀) :
    SpecX gp w K (k + 1) (.ref f) args B cs₀ Post C PE := by
  intro A s hA hFA T hH hG hB O
  refine codeAny_call_def (fd := fd) (body := body) (binds := binds) (by have := hA.depth; omega) (T.kin _ _ ok.look) rfl T.lim (codeRec_of T.kin ok.code) hb (hbind s T hB) hcell hloc (fun h₀ hns hk => ?_) ok.co ok.gen ok.kind
  have S : Sit ⟨K, feet cs₀, s, callEnv fd s.heap.objs.size f, ns, gs, gp, frOf (A.deeper (callEnv fd s.heap.objs.size f))⟩ vs₀ cs₀ { s with heap := h₀, toks := s.toks + binds.length } := by
    refine ⟨⟨fun p hp => ok.gok p hp _, ⟨ok.glob, ok.bui⟩, T, fun a ha => ?_, ok.nd, fun x hx => ok.loc x hx, ok.dbg, ok.kind, Nat.le_refl _, fun a ha hn => ⟨(hH a (frOf_deeper rfl ha hn)).1, own_fr O (frOf_deeper rfl ha hn)⟩⟩, hG, rfl, fun a o e _ _ => hk a o e, frs_new hH hk fun a ha hn => frOf_deeper rfl ha hn, ⟨_, hns, hv⟩, fun c hc => ⟨?_, fun a ha => .inl (mem_feet.mpr ⟨c, hc, ha⟩), fun z => ?_⟩, O.apart⟩
    · obtain ⟨c, hc, ha⟩ := mem_feet.mp ha
      exact ((O.own c hc).2 a ha).1
    · refine c.loc (fun a ha => ?_) (O.own c hc).1
      obtain ⟨o, ho⟩ := c.lt (O.own c hc).1 a ha
      rw [ho]; exact hk _ _ ho
    · obtain ⟨o, ho⟩ := c.lt (O.own c hc).1 _ z
      exact absurd (Heap.lt_size ho) (Nat.lt_irrefl _)
  have hkm : (callEnv fd s.heap.objs.size f).scope.kind ≠ .module := by
    intro q
    have : fd.scope.kind = .module := q
    rw [ok.kind] at this; cases this
  have hFA' := hFA.deeper (env := callEnv fd s.heap.objs.size f) hkm rfl
  have hFT : FrT (A.deeper (callEnv fd s.heap.objs.size f)) (callEnv fd s.heap.objs.size f) := by
    obtain ⟨l, hl, hlk⟩ := hFA
    refine ⟨l, Around.frames_deeper hl, fun e he => ?_⟩
    cases he with
    | head => exact ⟨hkm, _, rfl⟩
    | tail _ he => exact hlk e he
  refine wpAny_mono (h (A.deeper (callEnv fd s.heap.objs.size f)) s hA.deeper hFA' hFT T hB _ S) (fun fl s' x => ?_) fun e s' x => ?_
  · obtain ⟨vs', cs', S', cs₁, junk, p, q⟩ := x
    exact .inl ⟨_, cs₁, rfl, (S'.perm p).leave fun a ha hn => frOf_deeper rfl ha hn, q⟩
  · obtain ⟨a, vs', cs', s₁, h', rfl, rfl, S', X, cs₁, junk, p, pe⟩ := x
    obtain ⟨l, hl, hlk⟩ := hFA
    have hfr1 : (A.deeper (callEnv fd s.heap.objs.size f)).frames = some (callEnv fd s.heap.objs.size f :: l) := Around.frames_deeper hl
    refine leave_new S' rfl hfr1 (fun e he => ?_) rfl X fun h'' T S'' th => ?_
    · cases he with
      | head => exact ⟨hkm, _, rfl⟩
      | tail _ he => exact hlk e he
    · exact .inr ⟨a, T, cs₁, rfl, (S''.perm p).leave fun a ha hn => frOf_deeper rfl ha hn, pe, th.sub p⟩
end
end
section
open PySem PySem.W PyProof.Rows PySem.Calls
section
/-- many chunks as one -/
noncomputable def STAR (l : List HP) : HP where
  foot := feet l
  ok h := (∀ c ∈ l, c.ok h) ∧ l.Pairwise Apart
  loc e := fun ⟨o, p⟩ => ⟨fun c hc => c.loc (fun a ha => e a (mem_feet.mpr ⟨c, hc, ha⟩)) (o c hc), p⟩
  lt := fun ⟨o, _⟩ a ha => by
    obtain ⟨c, hc, h⟩ := mem_feet.mp ha
    exact c.lt (o c hc) a h
section
variable {w : World} {A : Around} {fm : Fm} {vs : Vals} {cs l : List HP} {c : HP} {s : Shared}
theorem Sit.starOut (S : Sit fm vs (STAR (c :: l) :: cs) s) : Sit fm vs (c :: STAR l :: cs) s := by
  obtain ⟨⟨o, p⟩, o2, o3⟩ := S.own _ (.head _)
  obtain ⟨a1, a2⟩ := List.pairwise_cons.mp S.apart
  obtain ⟨p1, p2⟩ := List.pairwise_cons.mp p
  have hc : ∀ a ∈ c.foot, a ∈ (STAR (c :: l)).foot := fun a ha => mem_feet.mpr ⟨c, .head _, ha⟩
  have hl : ∀ a ∈ (STAR l).foot, a ∈ (STAR (c :: l)).foot := fun a ha => by
    obtain ⟨d, hd, h⟩ := mem_feet.mp ha
    exact mem_feet.mpr ⟨d, .tail _ hd, h⟩
  refine ⟨S.fok, S.gens, S.os, S.ext, S.frs, S.loc, fun d hd => ?_, List.pairwise_cons.mpr ⟨fun d hd => ?_, List.pairwise_cons.mpr ⟨fun d hd x hx => a1 d hd x (hl x hx), a2⟩⟩⟩
  · cases hd with
    | head => exact ⟨o c (.head _), fun a ha => o2 a (hc a ha), fun z => o3 (hc _ z)⟩
    | tail _ hd =>
      cases hd with
      | head => exact ⟨⟨fun d hd => o d (.tail _ hd), p2⟩, fun a ha => o2 a (hl a ha), fun z => o3 (hl _ z)⟩
      | tail _ hd => exact S.own d (.tail _ hd)
  · cases hd with
    | head =>
      intro x hx hy
      obtain ⟨d, hd, h⟩ := mem_feet.mp hy
      exact p1 d hd x hx h
    | tail _ hd => exact fun x hx => a1 d hd x (hc x hx)
theorem Sit.starIn (S : Sit fm vs (c :: STAR l :: cs) s) : Sit fm vs (STAR (c :: l) :: cs) s := by
  obtain ⟨o, o2, o3⟩ := S.own _ (.head _)
  obtain ⟨⟨q, p⟩, q2, q3⟩ := S.own _ (.tail _ (.head _))
  obtain ⟨a1, a2⟩ := List.pairwise_cons.mp S.apart
  obtain ⟨b1, b2⟩ := List.pairwise_cons.mp a2
  have hc : ∀ a ∈ (STAR (c :: l)).foot, a ∈ c.foot ∨ a ∈ (STAR l).foot := fun a ha => by
    obtain ⟨d, hd, h⟩ := mem_feet.mp ha
    cases hd with
    | head => exact .inl h
    | tail _ hd => exact .inr (mem_feet.mpr ⟨d, hd, h⟩)
  refine ⟨S.fok, S.gens, S.os, S.ext, S.frs, S.loc, fun d hd => ?_, List.pairwise_cons.mpr ⟨fun d hd x hx => ?_, b2⟩⟩
  · cases hd with
    | head =>
      refine ⟨⟨fun d hd => ?_, List.pairwise_cons.mpr ⟨fun d hd x hx hy => a1 _ (.head _) x hx (mem_feet.mpr ⟨d, hd, hy⟩), p⟩⟩, fun a ha => ?_, fun z => ?_⟩
      · cases hd with
        | head => exact o
        | tail _ hd => exact q d hd
      · rcases hc a ha with z | z
        · exact o2 a z
        · exact q2 a z
      · rcases hc _ z with z | z
        · exact o3 z
        · exact q3 z
    | tail _ hd => exact S.own d (.tail _ (.tail _ hd))
  · rcases hc x hx with z | z
    · exact a1 d (.tail _ hd) x z
    · exact b1 d hd x z
theorem Sit.starNil (S : Sit fm vs cs s) : Sit fm vs (STAR [] :: cs) s := by
  refine ⟨S.fok, S.gens, S.os, S.ext, S.frs, S.loc, fun d hd => ?_, List.pairwise_cons.mpr ⟨fun d hd x hx => (by simp [STAR, feet] at hx), S.apart⟩⟩
  cases hd with
  | head => exact ⟨⟨fun _ h => by simp at h, .nil⟩, fun a ha => (by simp [STAR, feet] at ha), fun z => (by simp [STAR, feet] at z)⟩
  | tail _ hd => exact S.own d hd
theorem G_starOut {α : Type} {t : Sem α} {Q : α → Vals → List HP → Prop} {E : Value → Vals → List HP → Prop} (h : G w A fm t Q E vs (c :: STAR l :: cs)) : G w A fm t Q E vs (STAR (c :: l) :: cs) := fun s S => h s S.starOut
theorem G_starIn {α : Type} {t : Sem α} {Q : α → Vals → List HP → Prop} {E : Value → Vals → List HP → Prop} (h : G w A fm t Q E vs (STAR (c :: l) :: cs)) : G w A fm t Q E vs (c :: STAR l :: cs) := fun s S => h s S.starIn
theorem G_starNil {α : Type} {t : Sem α} {Q : α → Vals → List HP → Prop} {E : Value → Vals → List HP → Prop} (h : G w A fm t Q E vs (STAR [] :: cs)) : G w A fm t Q E vs cs := fun s S => h s S.starNil
end
/-- a list_iterator that was just made -/
noncomputable def LIT (I l : Addr) : HP := HP.one I fun o => o = liO (.ref l) 0 0
/-- the bound next of a list_iterator that stands at i -/
noncomputable def ITR (W I l : Addr) (i : Nat) : HP where
  foot := [W, I]
  ok h := W ≠ I ∧ h.get? W = some (mwO I) ∧ h.IsListIter I l i
  loc e := fun ⟨n, o, o', h, r⟩ => ⟨n, (e _ (.head _)).trans o, o', (e _ (.tail _ (.head _))).trans h, r⟩
  lt := fun ⟨n, o, o', h, r⟩ a ha => by
    cases ha with
    | head => exact ⟨_, o⟩
    | tail _ ha => cases List.mem_singleton.mp ha; exact ⟨_, h⟩
/-- nothing -/
noncomputable def NIL : HP where
  foot := []
  ok _ := True
  loc _ := id
  lt := fun _ a ha => nomatch ha
section
variable {w : World} {A : Around} {fm : Fm} {vs : Vals} {cs : List HP} {E : Value → Vals → List HP → Prop} {Q : Value → Vals → List HP → Prop}
theorem G_bindNext {I l : Addr} {ex : Bool} (h : ∀ W, Q (.ref W) vs (ITR W I l 0 :: cs)) : G w A fm (getAttr (.ref I) "__next__" ex) Q E vs (LIT I l :: cs) := fun s S => by
  obtain ⟨o, ho, rfl⟩ := (S.own _ (.head _)).1
  refine bindNext ho ⟨vs, _, ?_, h s.heap.objs.size⟩
  have hne : s.heap.objs.size ≠ I := fun q => by
    have := Heap.lt_size ho
    rw [q] at this; exact Nat.lt_irrefl _ this
  have S1 := S.push (o := mwO I) (P := fun o => o = mwO I) (t := s.toks + 1) rfl rfl
  have hI := Heap.get?_push_of_some (mwO I) ho
  have hW : (s.heap.push (mwO I)).get? s.heap.objs.size = some (mwO I) := Heap.get?_push_size _ rfl
  obtain ⟨a1, a2⟩ := List.pairwise_cons.mp S1.apart
  obtain ⟨b1, b2⟩ := List.pairwise_cons.mp a2
  refine ⟨S1.fok, S1.gens, S1.os, S1.ext, S1.frs, S1.loc, fun d hd => ?_, List.pairwise_cons.mpr ⟨fun d hd x hx => ?_, b2⟩⟩
  · cases hd with
    | head =>
      refine ⟨⟨hne, hW, _, hI, rfl, rfl⟩, fun a ha => ?_, fun z => ?_⟩
      · cases ha with
        | head => exact (S1.own _ (.head _)).2.1 _ (.head _)
        | tail _ ha => exact (S1.own _ (.tail _ (.head _))).2.1 _ ha
      · have z : fm.env.locals ∈ [s.heap.objs.size, I] := z
        rcases List.mem_cons.mp z with z | z
        · exact (S1.own _ (.head _)).2.2 (by rw [z]; exact .head _)
        · exact (S1.own _ (.tail _ (.head _))).2.2 z
    | tail _ hd => exact S1.own d (.tail _ (.tail _ hd))
  · cases hx with
    | head => exact a1 d (.tail _ hd) _ (.head _)
    | tail _ hx => exact b1 d hd _ hx
/-- one more value comes -/
theorem G_nextItem {W I l : Addr} {i : Nat} {xs : List Value} {v : Value} (hl : ∀ s, Sit fm vs (ITR W I l i :: cs) s → s.heap.IsList l xs.toArray) (hx : xs[i]? = some v) (h : Q v vs (ITR W I l (i + 1) :: cs)) : G w A fm (call (.ref W) []) Q E vs (ITR W I l i :: cs) := fun s S => by
  obtain ⟨n, hW, hI⟩ := (S.own _ (.head _)).1
  refine callNext_item hW hI (hl s S) (by rw [List.getElem?_toArray]; exact hx) fun h' k sb => ?_
  exact ⟨vs, _, S.upd (c' := ITR W I l (i + 1)) (a := I) (t := s.toks) (.tail _ (.head _)) sb (fun _ q => q) ⟨n, (sb.2 _ n).trans hW, k⟩, h⟩
/-- none comes -/
theorem GX_nextEnd {W I l : Addr} {i : Nat} {xs : List Value} {R : Vals → List HP → Prop} (hA : A.handled = none) (hl : ∀ s, Sit fm vs (ITR W I l i :: cs) s → s.heap.IsList l xs.toArray) (hx : xs[i]? = none) (h : R vs cs) : GX w A fm (call (.ref W) []) Q (NowX fm (.type "StopIteration") R) vs (ITR W I l i :: cs) := fun s S => by
  obtain ⟨n, hW, hI⟩ := (S.own _ (.head _)).1
  refine callNext_end hA hW hI (hl s S) (by rw [List.getElem?_toArray]; exact hx) fun h₁ h' e sb k X => ?_
  have S1 := S.upd (c' := NIL) (a := I) (t := s.toks) (.tail _ (.head _)) sb (fun _ q => nomatch q) trivial
  exact ⟨e, vs, cs, { s with heap := h₁ }, h', rfl, rfl, S1.sub (List.sublist_cons_self _ _), X, h⟩
theorem G_iterL {l : Addr} {xs : List Value} (hl : ∀ s, Sit fm vs cs s → s.heap.IsList l xs.toArray) (h : ∀ I, Q (.ref I) vs (LIT I l :: cs)) : G w A fm (call (.builtin "iter") [.ref l]) Q E vs cs := fun s S => by
  refine call_function_entry (by decide +kernel) (by decide +kernel) kdk_entry_iter (kdk_args_iter _) ?_
  unfold Builtin.«iter»
  refine wpAny_bind (m := someArgs "iter" 1 2 _) (wpAny_of_eq (a := [Value.ref l]) (by first | rfl | kernel_rfl!) ?_)
  show wpAny _ _ (pyIter (.ref l) >>= _) _ _ _
  refine wpAny_bind (wpAny_pyIter_list (hl s S) ?_)
  exact wpAny_pure ⟨_, rfl, vs, _, S.push (P := fun o => o = liO (.ref l) 0 0) (t := s.toks) rfl rfl, h _⟩
end
end
end
section
open PySem PySem.W PyProof.Rows PySem.Calls
section
/-- a set of texts -/
noncomputable def SET (w : World) (a : Addr) (S : Str → Bool) (n : Nat) : HP where
  foot := [a]
  ok h := h.SetOf (sk w) a S n
  loc e := fun ⟨o, es, ep, t, ho, r⟩ => ⟨o, es, ep, t, (e _ (.head _)).trans ho, r⟩
  lt := fun ⟨o, es, ep, t, ho, r⟩ b hb => by cases List.mem_singleton.mp hb; exact ⟨o, ho⟩
section
variable {w : World} {A : Around} {fm : Fm} {vs : Vals} {cs : List HP} {E : Value → Vals → List HP → Prop} {Q : Value → Vals → List HP → Prop}
theorem G_inSet {a : Addr} {S : Str → Bool} {n : Nat} {x : Str} {t : Tok} (hd : ∀ s, Sit fm vs cs s → (SET w a S n).ok s.heap) (h : Q (.bool (S x)) vs cs) : G w A fm (compareOp .In (.str x t) (.ref a)) Q E vs cs := fun s Z =>
  wpAny_inSet_of (is_str w x t) rfl (hd s Z) ⟨vs, cs, Z.toks _, h⟩
theorem G_sAdd {a : Addr} {S : Str → Bool} {n : Nat} {x : Str} {t : Tok} (hx : S x = false) (hn : n < 4000) (h : Q .none vs (SET w a (fun k => S k || decide (k = x)) (n + 1) :: cs)) : G w A fm (call (.builtin "set.add") [.ref a, .str x t]) Q E vs (SET w a S n :: cs) := fun s Z => by
  refine call_set_add (is_str w x t) rfl (Z.own _ (.head _)).1 (by show n + 1 < 4096; omega) fun h' sb k => ?_
  rw [hx, if_neg (by decide)] at k
  exact ⟨vs, _, Z.upd (c' := SET w a (fun k => S k || decide (k = x)) (n + 1)) (t := s.toks + 1) (.head _) sb (fun _ q => q) k, h⟩
theorem G_set0 (h : ∀ a, Q (.ref a) vs (SET w a (fun _ => false) 0 :: cs)) : G w A fm (call (.type "set") []) Q E vs cs := fun s S => by
  refine call_set_0 fun led => ⟨vs, _, S.grow1 (t := s.toks) (c := SET w s.heap.objs.size (fun _ => false) 0) (fun _ _ e => Heap.get?_push_of_some _ e) ?_ (fun b hb => by cases List.mem_singleton.mp hb; exact Nat.le_refl _), h _⟩
  exact ⟨_, _, _, _, Heap.get?_push_size _ rfl, ⟨rfl, rfl, rfl⟩, rfl, fun x hx => by simp at hx, fun k => by simp, by decide, by first | rfl | decide, rfl⟩
theorem G_popR {a : Addr} {xs : List Value} {v : Value} (hsz : xs.length < sizeLine) (h : Q v vs (RAW a xs :: cs)) : G w A fm (call (.builtin "list.pop") [.ref a]) Q E vs (RAW a (xs ++ [v]) :: cs) := fun s S => by
  obtain ⟨ob, e, n, rfl⟩ := (S.own _ (.head _)).1
  have hz' : (xs ++ [v]).toArray.size ≤ sizeLine := by rw [List.size_toArray, List.length_append]; exact hsz
  have hk : (xs ++ [v]).toArray.size - 1 = xs.length := by rw [List.size_toArray, List.length_append]; rfl
  have hy : (xs ++ [v]).toArray[(xs ++ [v]).toArray.size - 1]? = some v := by rw [hk]; simp
  refine call_meets PySem.F.slot_list_pop ⟨_, e, rfl⟩ PySem.F.entry_list_pop (PySem.F.args_list_pop_1 _) (PySem.MeetsSeq.list_pop_last a _ n v hy hz') ⟨e, ?_⟩
  have e2 : (xs ++ [v]).toArray.eraseIdxIfInBounds ((xs ++ [v]).toArray.size - 1) = xs.toArray := by rw [hk, kl_erase, List.append_nil]
  have q := PySem.IsL.update e (fun ys => ys.eraseIdxIfInBounds ((xs ++ [v]).toArray.size - 1))
  rw [e2, if_neg (by simp)] at q
  exact ⟨vs, _, S.upd (c' := RAW a xs) (t := s.toks) (.head _) (Heap.SameBut.update ..) (fun _ q => q) ⟨_, q, n + 1, rfl⟩, h⟩
theorem G_ddel {d : Addr} {kvs : List (Str × Value)} {x : Str} {t : Tok} {v : Value} {Q : Unit → Vals → List HP → Prop} (hsz : kvs.length ≤ 1000000) (hv : valueAt kvs x = some v) (h : Q () vs (DCT w d (PySem.without kvs x) :: cs)) : G w A fm (delItem (.ref d) (.str x t)) Q E vs (DCT w d kvs :: cs) := fun s S => by
  obtain ⟨h1, h2⟩ := (S.own _ (.head _)).1
  unfold delItem
  try with_reducible refine wpAny_holding ?_
  refine wpAny_bind (wpAny_sequenceKey h2.typeIs (by decide) ?_)
  refine wpAny_bind (wpAny_callSpecial?_slot (name := Str.ofString "__delitem__") h2.typeIs PySem.F.slot_dict_delitem
    (call_meetsIn PySem.F.slot_dict_delitem h2.typeIs PySem.F.entry_dict_delitem (PySem.F.args_dict_delitem_2 _ _) (meets_dict_delitem_pairs (sk w) d (is_str w x t)) ⟨kvs, h2, szl hsz, by rw [hv]; rfl, fun h' hmm hs => ?_⟩))
  exact wpAny_pure ⟨vs, _, S.upd (c' := DCT w d (PySem.without kvs x)) (t := s.toks + 1) (.head _) hs (fun _ q => q) ⟨h1, hmm⟩, h⟩
end
end
end
section
open PySem PySem.W PyProof.Rows PySem.Calls
section
/-- a dict at one epoch -/
noncomputable def DCE (w : World) (d : Addr) (kvs : List (Str × Value)) (ep : Nat) : HP where
  foot := [d]
  ok h := (d == sysModules) = false ∧ h.DictAt (sk w) d kvs ep
  loc e := fun ⟨n, o, es, ho, r⟩ => ⟨n, o, es, (e _ (.head _)).trans ho, r⟩
  lt := fun ⟨n, o, es, ho, r⟩ b hb => by cases List.mem_singleton.mp hb; exact ⟨o, ho⟩
theorem DCE.dct {w : World} {d : Addr} {kvs : List (Str × Value)} {ep : Nat} {h : Heap} (o : (DCE w d kvs ep).ok h) : (DCT w d kvs).ok h := ⟨o.1, o.2.dictOf⟩
section
variable {w : World} {A : Around} {fm : Fm} {vs : Vals} {cs : List HP}
theorem Sit.dce {d : Addr} {kvs : List (Str × Value)} {s : Shared} (S : Sit fm vs (DCT w d kvs :: cs) s) : ∃ ep, Sit fm vs (DCE w d kvs ep :: cs) s := by
  obtain ⟨⟨o1, o2⟩, p2, p3⟩ := S.own _ (.head _)
  obtain ⟨ep, o2⟩ := o2.dictAt
  refine ⟨ep, S.fok, S.gens, S.os, S.ext, S.frs, S.loc, fun c hc => ?_, List.pairwise_cons.mpr ⟨fun c hc => (List.pairwise_cons.mp S.apart).1 c hc, (List.pairwise_cons.mp S.apart).2⟩⟩
  cases hc with
  | head => exact ⟨⟨o1, o2⟩, p2, p3⟩
  | tail _ hc => exact S.own c (.tail _ hc)
theorem Sit.undce {d : Addr} {kvs : List (Str × Value)} {ep : Nat} {s : Shared} (S : Sit fm vs (DCE w d kvs ep :: cs) s) : Sit fm vs (DCT w d kvs :: cs) s := by
  obtain ⟨o, p2, p3⟩ := S.own _ (.head _)
  refine ⟨S.fok, S.gens, S.os, S.ext, S.frs, S.loc, fun c hc => ?_, List.pairwise_cons.mpr ⟨fun c hc => (List.pairwise_cons.mp S.apart).1 c hc, (List.pairwise_cons.mp S.apart).2⟩⟩
  cases hc with
  | head => exact ⟨DCE.dct o, p2, p3⟩
  | tail _ hc => exact S.own c (.tail _ hc)
theorem G_dce {α : Type} {t : Sem α} {Q : α → Vals → List HP → Prop} {E : Value → Vals → List HP → Prop} {d : Addr} {kvs : List (Str × Value)} (h : ∀ ep, G w A fm t Q E vs (DCE w d kvs ep :: cs)) : G w A fm t Q E vs (DCT w d kvs :: cs) := fun s S => by
  obtain ⟨ep, S'⟩ := S.dce
  exact h ep s S'
theorem G_undce {α : Type} {t : Sem α} {Q : α → Vals → List HP → Prop} {E : Value → Vals → List HP → Prop} {d : Addr} {kvs : List (Str × Value)} {ep : Nat} (h : G w A fm t Q E vs (DCT w d kvs :: cs)) : G w A fm t Q E vs (DCE w d kvs ep :: cs) := fun s S => h s S.undce
end
theorem Src.keys {w : World} {A : Around} (hA : A.handled = none) (d : Addr) (kvs : List (Str × Value)) (ep : Nat) : Src w A (.ref d) kvs.length (fun i v => ∃ k x t, kvs[i]? = some (k, x) ∧ v = .str k t) (fun h => (DCE w d kvs ep).ok h) := ⟨fun s Q E u k => by
  have hne : d ≠ s.heap.objs.size := Nat.ne_of_lt u.2.lt_size
  have W := Walks.dictKeys (knd := sk w) hA s.heap.objs.size d hne kvs ep
  refine wpAny_pyIter_dict u.1 u.2 (k s.heap.objs.size (ITO s.heap.objs.size fun i o => o.cls = .type "dict_keyiterator" ∧ o.data = .fields #[.ref d, .int i 0, .int kvs.length 0, .int ep 0]) _ s.toks ⟨fun _ => rfl, fun i s Q E hi r u k => ?_, fun s Q E r u k => ?_, fun i s Q E r u k => W.self i s Q E ⟨r, u.2⟩ k, fun i s target v Q E r k => ?_⟩ (Nat.le_refl _) ⟨_, Heap.get?_push_size _ rfl, rfl, rfl⟩ fun _ _ e => Heap.get?_push_of_some _ e)
  · exact W.item i s Q E hi ⟨r, u.2⟩ fun v h' tk p st kp => k v h' tk (by
      obtain ⟨k, x, p1, p2⟩ := p
      obtain ⟨t, rfl⟩ := Value.isStrOf_shape p2
      exact ⟨k, x, t, p1, rfl⟩) st.1 fun b o hb e => kp b o (fun q => hb (List.mem_singleton.mp q)) e
  · exact W.done s Q E ⟨r, u.2⟩ fun h' tk kp => k h' tk fun b o hb e => kp b o (fun q => hb (List.mem_singleton.mp q)) e
  · obtain ⟨o, ho, hc, _⟩ := r
    exact goes_plain ho hc (by decide) target v k⟩
/-- what values() gives -/
noncomputable def VIEW (V d : Addr) : HP := HP.one V fun o => o.cls = .type "dict_values" ∧ o.data = .fields #[.ref d]
theorem Src.values {w : World} {A : Around} (hA : A.handled = none) (V d : Addr) (kvs : List (Str × Value)) (ep : Nat) : Src w A (.ref V) kvs.length (fun i v => ∃ k, kvs[i]? = some (k, v)) (fun h => (VIEW V d).ok h ∧ (DCE w d kvs ep).ok h) := ⟨fun s Q E u k => by
  have hne : d ≠ s.heap.objs.size := Nat.ne_of_lt u.2.2.lt_size
  have W := Walks.dictValues (knd := sk w) hA s.heap.objs.size d hne kvs ep
  refine wpAny_pyIter_values u.1 u.2.2 (k s.heap.objs.size (ITO s.heap.objs.size fun i o => o.cls = .type "dict_valueiterator" ∧ o.data = .fields #[.ref d, .int i 0, .int kvs.length 0, .int ep 0]) _ s.toks ⟨fun _ => rfl, fun i s Q E hi r u k => ?_, fun s Q E r u k => ?_, fun i s Q E r u k => W.self i s Q E ⟨r, u.2.2⟩ k, fun i s target v Q E r k => ?_⟩ (Nat.le_refl _) ⟨_, Heap.get?_push_size _ rfl, rfl, rfl⟩ fun _ _ e => Heap.get?_push_of_some _ e)
  · exact W.item i s Q E hi ⟨r, u.2.2⟩ fun v h' tk p st kp => k v h' tk p st.1 fun b o hb e => kp b o (fun q => hb (List.mem_singleton.mp q)) e
  · exact W.done s Q E ⟨r, u.2.2⟩ fun h' tk kp => k h' tk fun b o hb e => kp b o (fun q => hb (List.mem_singleton.mp q)) e
  · obtain ⟨o, ho, hc, _⟩ := r
    exact goes_plain ho hc (by decide) target v k⟩
theorem G_values {w : World} {A : Around} {fm : Fm} {vs : Vals} {cs : List HP} {E : Value → Vals → List HP → Prop} {Q : Value → Vals → List HP → Prop} {d : Addr} {kvs : List (Str × Value)} (hd : ∀ s, Sit fm vs cs s → (DCT w d kvs).ok s.heap) (h : ∀ V, Q (.ref V) vs (VIEW V d :: cs)) : G w A fm (call (.builtin "dict.values") [.ref d]) Q E vs cs := fun s S => by
  obtain ⟨h1, h2⟩ := hd s S
  refine call_meetsIn PySem.F.slot_dict_values h2.typeIs PySem.F.entry_dict_values (PySem.F.args_dict_values_1 _) (meets_dict_values (sk w) d h1) ⟨⟨kvs, h2⟩, ?_⟩
  exact ⟨vs, _, S.push (P := fun o => o.cls = .type "dict_values" ∧ o.data = .fields #[.ref d]) (t := s.toks) rfl ⟨rfl, rfl⟩, h _⟩
end
end
section
open PySem PySem.W PyProof.Rows PySem.Calls
section
section
variable {w : World} {A : Around} {fm : Fm} {vs : Vals} {cs : List HP} {E : Value → Vals → List HP → Prop}
theorem G_addL {a b : Addr} {xs ys : List Value} {Q : Value → Vals → List HP → Prop} (ha : ∀ s, Sit fm vs cs s → (RAW a xs).ok s.heap) (hb : ∀ s, Sit fm vs cs s → (RAW b ys).ok s.heap) (hsz : xs.length + ys.length ≤ sizeLine) (h : ∀ d, Q (.ref d) vs (RAW d (xs ++ ys) :: cs)) : G w A fm (binaryOp .Add (.ref a) (.ref b)) Q E vs cs := fun s S => by
  obtain ⟨_, e1, n1, rfl⟩ := ha s S
  obtain ⟨_, e2, n2, rfl⟩ := hb s S
  refine P.add_list e1 e2 ⟨vs, _, S.push (P := fun o => ∃ n, o = listO (xs ++ ys) n) (t := s.toks) rfl ⟨0, ?_⟩, h _⟩ (by rw [List.size_toArray, List.size_toArray]; exact hsz)
  simp [listO]
theorem G_Del1 {o i : Expr} {pos p : Pos} {Q : Flow → Vals → List HP → Prop} (h : G w A fm (eval o fm.env) (fun ov vs cs => G w A fm (eval i fm.env) (fun iv vs cs => G w A fm (delItem ov iv) (fun _ vs cs => Q .next vs cs) E vs cs) E vs cs) E vs cs) : G w A fm (exec (.Delete [.Subscript o i pos] p) fm.env) Q E vs cs := fun s S => by
  refine wpAny_Delete (wpAny_deleteEach_cons (delete_Subscript (wpAny_mono (h s S) (fun ov s₁ ⟨_, _, S1, q⟩ => wpAny_mono (q s₁ S1) (fun iv s₂ ⟨_, _, S2, q⟩ => wpAny_mono (q s₂ S2) (fun _ s₃ z => ?_) fun _ _ x => x) fun _ _ x => x) fun _ _ x => x)))
  exact wpAny_deleteEach_nil z
end
end
end
section
open PySem PySem.W PyProof.Rows PySem.Calls
section
theorem raw_callW {w : World} {A : Around} {E : Value → Shared → Prop} {s : Shared} {Q : Value → Shared → Prop} {pos : Pos} {env : Env} {W I : Addr} (hW : s.heap.get? W = some (mwO I)) (h : wpAny (MD w) A (call (.ref W) []) Q E s) : wpAny (MD w) A (callWith pos (.ref W) [] (backTo pos (starEach [] env)) []) Q E s := by
  unfold callWith
  refine wpAny_bind (wpAny_holding (m := evalArgs (.ref W) true [] []) (evalArgs_nil3 (wpAny_bind (wpAny_standAt ?_))))
  show wpAny _ _ (keeperOf (.ref W) >>= _) _ _ _
  refine wpAny_bind ?_
  unfold keeperOf
  refine wpAny_bind (wpAny_load hW ?_)
  simp only [show (Value.type "method-wrapper" != Value.type "method") = true by decide, show (Value.type "method-wrapper" == Value.type "builtin_function_or_method" || Value.type "method-wrapper" == Value.type "method-wrapper") = true by decide, if_true]
  refine wpAny_pure ?_
  exact wpAny_bind (wpAny_mono h (fun r s₂ hr => wpAny_bind (wpAny_holding (wpAny_point (wpAny_pure hr)))) fun _ _ x => x)
theorem GX_CallW {w : World} {A : Around} {fm : Fm} {vs : Vals} {cs : List HP} {Er : Value → Shared → Prop} {Q : Value → Vals → List HP → Prop} {func : Expr} {p : Pos} (h : G w A fm (eval func fm.env) (fun f vs cs => E2 fun W I => A3 (f = .ref W) (∀ s, Sit fm vs cs s → s.heap.get? W = some (mwO I)) (GX w A fm (call (.ref W) []) Q Er vs cs)) NoE vs cs)
    (he : eval (.Call func [] [] p) fm.env = (do callWith p (← eval func fm.env) [] (backTo p (starEach [] fm.env)) (backToKw p (keywordEach [] fm.env))) := by rfl) : GX w A fm (eval (.Call func [] [] p) fm.env) Q Er vs cs := fun s S => by
  refine PyProof.Rows.Call_ (wpAny_mono (h s S) (fun f s₁ ⟨_, _, S', W, I, e, hW, q⟩ => ?_) fun _ _ ⟨_, _, _, z⟩ => z.elim) he
  subst e
  exact raw_callW (hW s₁ S') (q s₁ S')
section
variable {w : World} {A : Around} {fm : Fm} {vs : Vals} {cs : List HP} {Er : Value → Shared → Prop}
theorem GX_Assign {x : Str} {p' p : Pos} {value : Expr} {Q : Flow → Vals → List HP → Prop} (h : GX w A fm (eval value fm.env) (ASG fm.ns x (Q .next)) Er vs cs)
    (hs : notComp value = true) : GX w A fm (exec (.Assign [.Name x p'] value p) fm.env) Q Er vs cs := fun s S => by
  refine wpAny_Assign_Name (wpAny_mono (h s S) (fun v s₁ x => ?_) fun _ _ x => x) (swap_of hs)
  obtain ⟨v1, c1, S1, v2, g, q⟩ := x
  exact wpAny_mono (G_store (w := w) (A := A) (E := NoE) (Q := fun _ => Q .next) g q s₁ S1) (fun _ _ z => z) fun _ _ ⟨_, _, _, z⟩ => z.elim
theorem GX_cons {st : Stmt} {rest : List Stmt} {Q : Flow → Vals → List HP → Prop} (h : GX w A fm (exec st fm.env) (fun fl vs cs => fl = .next ∧ G w A fm (execs rest fm.env) Q NoE vs cs) Er vs cs) : GX w A fm (execs (st :: rest) fm.env) Q Er vs cs := fun s S => by
  refine wpAny_execs_cons (wpAny_mono (h s S) (fun f s' x => ?_) fun _ _ x => x)
  obtain ⟨v, c, S', rfl, q⟩ := x
  exact wpAny_mono (q s' S') (fun _ _ z => z) fun _ _ ⟨_, _, _, z⟩ => z.elim
end
end
end
section
open PySem
section
/-- each node's successors come behind it in the list -/
noncomputable def Topo (su : Str → List Str) : List Str → Prop
  | [] => True
  | a :: r => (∀ b ∈ su a, b ∈ r) ∧ Topo su r
/-- what is known of an entry of the stack; ab: the node that comes above it -/
noncomputable def Ent (su : Str → List Str) (fin : List Str) : Option Str → Str × Nat → Prop
  | none, (a, i) => ∀ j b, j < i → (su a)[j]? = some b → b ∈ fin
  | some n, (a, i) => ∃ k, i = k + 1 ∧ (su a)[k]? = some n ∧ ∀ j b, j < k → (su a)[j]? = some b → b ∈ fin
noncomputable def Chn (su : Str → List Str) (fin : List Str) : Option Str → List (Str × Nat) → Prop
  | _, [] => True
  | ab, (a, i) :: r => Ent su fin ab (a, i) ∧ Chn su fin (some a) r
variable {su : Str → List Str} {fin : List Str} {st : List (Str × Nat)}
theorem Ent.mono {fin' : List Str} (h : ∀ b ∈ fin, b ∈ fin') : ∀ {ab : Option Str} {e : Str × Nat}, Ent su fin ab e → Ent su fin' ab e
  | none, (a, i), o => fun j b hj e => h b (o j b hj e)
  | some n, (a, i), ⟨k, h1, h2, o⟩ => ⟨k, h1, h2, fun j b hj e => h b (o j b hj e)⟩
theorem Chn.mono {fin' : List Str} (h : ∀ b ∈ fin, b ∈ fin') : ∀ {st : List (Str × Nat)} {ab : Option Str}, Chn su fin ab st → Chn su fin' ab st
  | [], _, _ => trivial
  | (a, i) :: r, _, ⟨h1, h2⟩ => ⟨h1.mono h, Chn.mono h h2⟩
theorem Chn.push {n : Str} (h : Chn su fin (some n) st) : Chn su fin none ((n, 0) :: st) := ⟨fun j b hj _ => absurd hj (Nat.not_lt_zero _), h⟩
theorem Chn.known {n : Str} (hn : n ∈ fin) : ∀ {st : List (Str × Nat)}, Chn su fin (some n) st → Chn su fin none st
  | [], _ => trivial
  | (a, i) :: r, ⟨⟨k, h1, h2, o⟩, h⟩ => ⟨fun j b hj e => by
      by_cases q : j = k
      · subst q
        rw [h2] at e
        cases e
        exact hn
      · exact o j b (by omega) e, h⟩
theorem Chn.take {a b : Str} {i : Nat} (h : Chn su fin none ((a, i) :: st)) (hb : (su a)[i]? = some b) : Chn su fin (some b) ((a, i + 1) :: st) := ⟨⟨i, rfl, hb, h.1⟩, h.2⟩
theorem Chn.pop {a : Str} {i : Nat} (h : Chn su fin none ((a, i) :: st)) (hb : (su a)[i]? = none) (t : Topo su fin) : Topo su (a :: fin) ∧ Chn su (a :: fin) none st := by
  refine ⟨⟨fun b hb' => ?_, t⟩, Chn.known (.head _) (h.2.mono fun b hb => .tail _ hb)⟩
  obtain ⟨j, hj, e⟩ := List.getElem_of_mem hb'
  have : (su a).length ≤ i := List.getElem?_eq_none_iff.mp hb
  exact h.1 j b (by omega) (by rw [List.getElem?_eq_getElem hj, e])
/-- one step or more along the successors -/
inductive Way (su : Str → List Str) : Str → Str → Prop
  | one {a b} : b ∈ su a → Way su a b
  | more {a b c} : b ∈ su a → Way su b c → Way su a c
theorem Way.snoc {a b c : Str} (h : Way su a b) (hc : c ∈ su b) : Way su a c := by
  induction h with
  | one h => exact .more h (.one hc)
  | more h _ ih => exact .more h (ih hc)
theorem Chn.way {m : Str} : ∀ {st : List (Str × Nat)} {n : Str}, Chn su fin (some n) st → m ∈ st.map (·.1) → Way su m n
  | (a, i) :: r, n, ⟨⟨k, h1, h2, o⟩, h⟩, hm => by
    have hn : n ∈ su a := List.mem_of_getElem? h2
    cases hm with
    | head => exact .one hn
    | tail _ hm => exact (Chn.way h hm).snoc hn
/-- no way leads round where the nodes stand in such a list -/
theorem Topo.noWay {l : List Str} (t : Topo su l) (nd : l.Nodup) {a b : Str} (h : Way su a b) : a ∈ l → b ∈ l ∧ ∃ pre post, l = pre ++ a :: post ∧ b ∈ post := by
  have key : ∀ {l : List Str} {a b : Str}, Topo su l → a ∈ l → b ∈ su a → ∃ pre post, l = pre ++ a :: post ∧ b ∈ post := by
    intro l
    induction l with
    | nil => intro a b _ h; cases h
    | cons x r ih =>
      intro a b t ha hb
      cases ha with
      | head => exact ⟨[], r, rfl, t.1 b hb⟩
      | tail _ ha =>
        obtain ⟨pre, post, e, hp⟩ := ih t.2 ha hb
        exact ⟨x :: pre, post, by rw [e]; rfl, hp⟩
  have sub : ∀ {pre post : List Str} {a : Str}, Topo su (pre ++ a :: post) → Topo su post := by
    intro pre
    induction pre with
    | nil => intro post a t; exact t.2
    | cons x r ih => intro post a t; exact ih t.2
  induction h generalizing l with
  | one h =>
    intro ha
    obtain ⟨pre, post, e, hp⟩ := key t ha h
    exact ⟨by rw [e]; exact List.mem_append_right _ (.tail _ hp), pre, post, e, hp⟩
  | more h _ ih =>
    intro ha
    obtain ⟨pre, post, e, hp⟩ := key t ha h
    have nd2 : post.Nodup := by rw [e] at nd; exact (List.nodup_cons.mp (List.nodup_append.mp nd).2.1).2
    obtain ⟨hc, _⟩ := ih (sub (e ▸ t)) nd2 hp
    exact ⟨by rw [e]; exact List.mem_append_right _ (.tail _ hc), pre, post, e, hc⟩
theorem Topo.noCycle {l : List Str} (t : Topo su l) (nd : l.Nodup) {a : Str} (ha : a ∈ l) : ¬ Way su a a := fun h => by
  obtain ⟨_, pre, post, e, hp⟩ := t.noWay nd h ha
  rw [e] at nd
  exact (List.nodup_cons.mp (List.nodup_append.mp nd).2.1).1 hp
end
end
section
open PySem
section
noncomputable def sumBy (f : Str → Nat) : List Str → Nat
  | [] => 0
  | a :: r => f a + sumBy f r
theorem sumBy_perm {f : Str → Nat} {l l' : List Str} (p : l.Perm l') : sumBy f l = sumBy f l' := by
  induction p with
  | nil => rfl
  | cons a _ ih => simp only [sumBy, ih]
  | swap a b l => simp only [sumBy]; omega
  | trans _ _ h1 h2 => exact h1.trans h2
theorem sumBy_le {f : Str → Nat} : ∀ {l keys : List Str}, l.Nodup → (∀ a ∈ l, a ∈ keys) → sumBy f l ≤ sumBy f keys
  | [], _, _, _ => Nat.zero_le _
  | a :: r, keys, nd, h => by
    obtain ⟨h1, h2⟩ := List.nodup_cons.mp nd
    rw [sumBy_perm (List.perm_cons_erase (h a (.head _)))]
    have := sumBy_le (f := f) (l := r) (keys := keys.erase a) h2 fun b hb => by
      have hne : b ≠ a := fun q => h1 (q ▸ hb)
      exact (List.mem_erase_of_ne hne).mpr (h b (.tail _ hb))
    simp only [sumBy]
    omega
theorem sumBy_app {f : Str → Nat} : ∀ {l r : List Str}, sumBy f (l ++ r) = sumBy f l + sumBy f r
  | [], r => by simp [sumBy]
  | a :: l, r => by simp only [List.cons_append, sumBy, sumBy_app (l := l)]; omega
variable {su : Str → List Str}
/-- what was used of the graph -/
noncomputable def usedS : List (Str × Nat) → Nat
  | [] => 0
  | (_, i) :: r => i + 1 + usedS r
noncomputable def wt (su : Str → List Str) (k : Str) : Nat := (su k).length + 2
noncomputable def used (su : Str → List Str) (st : List (Str × Nat)) (fin : List Str) : Nat := usedS st + sumBy (wt su) fin
theorem usedS_le : ∀ {st : List (Str × Nat)}, (∀ e ∈ st, e.2 ≤ (su e.1).length) → usedS st ≤ sumBy (wt su) (st.map (·.1))
  | [], _ => Nat.zero_le _
  | (a, i) :: r, h => by
    have h1 := h (a, i) (.head _)
    have h2 := usedS_le (st := r) fun e he => h e (.tail _ he)
    simp only [List.map_cons, usedS, sumBy, wt] at *
    omega
/-- the state of the search -/
structure Dfs (su : Str → List Str) (keys : List Str) (ab : Option Str) (st : List (Str × Nat)) (fin : List Str) : Prop where
  nd : (st.map (·.1) ++ fin).Nodup
  sub : ∀ a ∈ st.map (·.1) ++ fin, a ∈ keys
  le : ∀ e ∈ st, e.2 ≤ (su e.1).length
  topo : Topo su fin
  chn : Chn su fin ab st
variable {keys : List Str} {st : List (Str × Nat)} {fin : List Str}
theorem Dfs.used_le {ab : Option Str} (h : Dfs su keys ab st fin) : used su st fin ≤ sumBy (wt su) keys := by
  have := sumBy_le (f := wt su) h.nd h.sub
  rw [sumBy_app] at this
  have := usedS_le h.le
  unfold used
  omega
theorem Dfs.push {n : Str} (h : Dfs su keys (some n) st fin) (hk : n ∈ keys) (hn : n ∉ st.map (·.1) ++ fin) : Dfs su keys none ((n, 0) :: st) fin :=
  ⟨List.nodup_cons.mpr ⟨hn, h.nd⟩, fun a ha => by
    cases ha with
    | head => exact hk
    | tail _ ha => exact h.sub a ha, fun e he => by
    cases he with
    | head => exact Nat.zero_le _
    | tail _ he => exact h.le e he, h.topo, h.chn.push⟩
theorem Dfs.known {n : Str} (h : Dfs su keys (some n) st fin) (hn : n ∈ fin) : Dfs su keys none st fin := ⟨h.nd, h.sub, h.le, h.topo, h.chn.known hn⟩
theorem Dfs.take {a b : Str} {i : Nat} (h : Dfs su keys none ((a, i) :: st) fin) (hb : (su a)[i]? = some b) : Dfs su keys (some b) ((a, i + 1) :: st) fin ∧ used su ((a, i + 1) :: st) fin = used su ((a, i) :: st) fin + 1 :=
  ⟨⟨h.nd, h.sub, fun e he => by
    cases he with
    | head => exact (List.getElem?_eq_some_iff.mp hb).1
    | tail _ he => exact h.le e (.tail _ he), h.topo, h.chn.take hb⟩, by simp only [used, usedS]; omega⟩
theorem Dfs.pop {a : Str} {i : Nat} (h : Dfs su keys none ((a, i) :: st) fin) (hb : (su a)[i]? = none) : Dfs su keys none st (a :: fin) ∧ used su ((a, i) :: st) fin < used su st (a :: fin) := by
  obtain ⟨t, c⟩ := h.chn.pop hb h.topo
  have hi := h.le (a, i) (.head _)
  have p : (st.map (·.1) ++ a :: fin).Perm (((a, i) :: st).map (·.1) ++ fin) := List.perm_middle
  refine ⟨⟨p.nodup_iff.mpr h.nd, fun b hb => h.sub b (p.mem_iff.mp hb), fun e he => h.le e (.tail _ he), t, c⟩, ?_⟩
  simp only [used, usedS, sumBy, wt] at *
  omega
theorem Dfs.cycle {n : Str} (h : Dfs su keys (some n) st fin) (hn : n ∈ st.map (·.1)) : Way su n n := Chn.way h.chn hn
theorem Dfs.none {n : Str} (h : Dfs su keys none [] fin) : Dfs su keys (some n) [] fin := ⟨h.nd, h.sub, h.le, h.topo, trivial⟩
end
end
section
open PySem PySem.W PyProof.Rows PySem.Calls
section
/-- an entry of the stack: the bound next, the iterator, the node, the place, the tokens of its text and of its index -/
structure CEnt where
  W : Addr
  I : Addr
  nd : Nd
  i : Nat
  tk : Tok
  ti : Tok
noncomputable def CEnt.itr (e : CEnt) : HP := ITR e.W e.I e.nd.la e.i
noncomputable abbrev ckeys (es : List CEnt) : List Str := es.map fun e => e.nd.key
/-- the indices (the stack's top comes first) -/
noncomputable def nkOf : List CEnt → List (Str × Value)
  | [] => []
  | e :: r => nkOf r ++ [(e.nd.key, .int r.length e.ti)]
theorem nkOf_len : ∀ es : List CEnt, (nkOf es).length = es.length
  | [] => rfl
  | e :: r => by simp [nkOf, nkOf_len r]
theorem nkOf_mem {es : List CEnt} : ∀ {p : Str × Value}, p ∈ nkOf es → p.1 ∈ ckeys es ∧ ∃ (i : Nat) (t : Tok), p.2 = .int i t ∧ i < es.length := by
  induction es with
  | nil => intro p h; exact absurd h List.not_mem_nil
  | cons e r ih =>
    intro p h
    rcases List.mem_append.mp h with q | q
    · obtain ⟨h1, i, t, h2, h3⟩ := ih q
      exact ⟨.tail _ h1, i, t, h2, Nat.lt_succ_of_lt h3⟩
    · cases List.mem_singleton.mp q
      exact ⟨.head _, r.length, e.ti, rfl, Nat.lt_succ_self _⟩
theorem nkOf_has : ∀ {es : List CEnt} {k : Str}, k ∈ ckeys es → ∃ v, (k, v) ∈ nkOf es
  | e :: r, k, h => by
    cases h with
    | head => exact ⟨_, List.mem_append_right _ (.head _)⟩
    | tail _ h =>
      obtain ⟨v, hv⟩ := nkOf_has h
      exact ⟨v, List.mem_append_left _ hv⟩
theorem nkOf_stored {es : List CEnt} {k : Str} {v : Value} (h : k ∉ ckeys es) : stored (nkOf es) k v = nkOf es ++ [(k, v)] := by
  unfold stored
  rw [if_neg]
  intro q
  obtain ⟨p, hp, e⟩ := List.any_eq_true.mp q
  exact h ((of_decide_eq_true e) ▸ (nkOf_mem hp).1)
theorem nkOf_without {e : CEnt} {r : List CEnt} (h : e.nd.key ∉ ckeys r) : PySem.without (nkOf (e :: r)) e.nd.key = nkOf r := by
  unfold PySem.without
  simp only [nkOf, List.filter_append]
  have h1 : (nkOf r).filter (fun kv => decide (kv.1 ≠ e.nd.key)) = nkOf r := List.filter_eq_self.mpr fun p hp => decide_eq_true fun q => h (q ▸ (nkOf_mem hp).1)
  rw [h1]
  simp
theorem nkOf_some {es : List CEnt} {k : Str} (h : k ∈ ckeys es) : ∃ (i : Nat) (t : Tok), valueAt (nkOf es) k = some (.int i t) ∧ i < es.length := by
  obtain ⟨v, hv⟩ := nkOf_has h
  unfold valueAt
  cases q : (nkOf es).find? fun kv => kv.1 = k with
  | none => exact absurd (List.find?_eq_none.mp q _ hv) (by simp)
  | some p =>
    obtain ⟨_, i, t, h2, h3⟩ := nkOf_mem (List.mem_of_find?_eq_some q)
    exact ⟨i, t, by rw [Option.map_some, h2], h3⟩
theorem nkOf_none {es : List CEnt} {k : Str} (h : k ∉ ckeys es) : valueAt (nkOf es) k = none := by
  unfold valueAt
  rw [Option.map_eq_none_iff, List.find?_eq_none]
  intro p hp q
  exact h ((of_decide_eq_true q) ▸ (nkOf_mem hp).1)
/-- the state of the walk (es: the stack, its top first) -/
structure CycSt (nds : List Nd) (g : Gr) (ab : Option Str) (es : List CEnt) (fin : List Str) (S : Str → Bool) (n : Nat) : Prop where
  dfs : Dfs (suOf g) (keysOf g) ab (es.map fun e => (e.nd.key, e.i)) fin
  mem : ∀ e ∈ es, e.nd ∈ nds
  seen : ∀ k, S k = true ↔ k ∈ ckeys es ++ fin
  cnt : n = es.length + fin.length
/-- the chunks of the walk -/
noncomputable def cycCs (w : World) (sa ia ea na : Addr) (es : List CEnt) (S : Str → Bool) (n : Nat) : List HP :=
  [RAW sa (es.reverse.map fun e => .str e.nd.key e.tk), RAW ia (es.reverse.map fun e => .ref e.W), SET w ea S n, DCT w na (nkOf es), STAR (es.map CEnt.itr)]
theorem CycSt.start (nds : List Nd) (g : Gr) : CycSt nds g none [] [] (fun _ => false) 0 := ⟨⟨List.nodup_nil, fun _ h => (nomatch h), fun _ h => (nomatch h), trivial, trivial⟩, fun _ h => (nomatch h), fun k => by simp, rfl⟩
theorem mkeys (es : List CEnt) : (es.map fun e => (e.nd.key, e.i)).map (·.1) = ckeys es := by simp [ckeys, List.map_map, Function.comp_def]
variable {nds : List Nd} {g : Gr} {es : List CEnt} {fin : List Str} {S : Str → Bool} {n : Nat}
theorem CycSt.push {e : CEnt} (h : CycSt nds g (some e.nd.key) es fin S n) (hk : e.nd.key ∈ keysOf g) (hi : e.i = 0) (hm : e.nd ∈ nds) (hS : S e.nd.key = false) : CycSt nds g none (e :: es) fin (fun k => S k || decide (k = e.nd.key)) (n + 1) := by
  have hn : e.nd.key ∉ ckeys es ++ fin := fun q => by rw [(h.seen _).mpr q] at hS; cases hS
  refine ⟨?_, fun d hd => ?_, fun k => ?_, ?_⟩
  · have := h.dfs.push hk (by rw [mkeys]; exact hn)
    rw [List.map_cons, hi]; exact this
  · cases hd with
    | head => exact hm
    | tail _ hd => exact h.mem d hd
  · rw [Bool.or_eq_true, h.seen k, decide_eq_true_iff]
    show _ ↔ k ∈ e.nd.key :: (ckeys es ++ fin)
    rw [List.mem_cons]
    exact ⟨fun q => q.symm, fun q => q.symm⟩
  · rw [h.cnt, List.length_cons]; omega
theorem CycSt.pop {e : CEnt} (h : CycSt nds g none (e :: es) fin S n) (hb : (suOf g e.nd.key)[e.i]? = none) : CycSt nds g none es (e.nd.key :: fin) S n := by
  refine ⟨(h.dfs.pop hb).1, fun d hd => h.mem d (.tail _ hd), fun k => ?_, ?_⟩
  · rw [h.seen k]
    exact (List.perm_middle (a := e.nd.key) (l₁ := ckeys es) (l₂ := fin)).mem_iff.symm
  · rw [h.cnt, List.length_cons, List.length_cons]; omega
theorem CycSt.take {e : CEnt} {b : Str} (h : CycSt nds g none (e :: es) fin S n) (hb : (suOf g e.nd.key)[e.i]? = some b) : CycSt nds g (some b) ({ e with i := e.i + 1 } :: es) fin S n :=
  ⟨(h.dfs.take hb).1, fun d hd => by
    cases hd with
    | head => exact h.mem e (.head _)
    | tail _ hd => exact h.mem d (.tail _ hd), h.seen, h.cnt⟩
theorem CycSt.known {b : Str} (h : CycSt nds g (some b) es fin S n) (hS : S b = true) (hs : b ∉ ckeys es) : CycSt nds g none es fin S n :=
  ⟨h.dfs.known (((List.mem_append.mp ((h.seen b).mp hS)).resolve_left hs)), h.mem, h.seen, h.cnt⟩
theorem CycSt.cycle {b : Str} (h : CycSt nds g (some b) es fin S n) (hs : b ∈ ckeys es) : Way (suOf g) b b := h.dfs.cycle (by rw [mkeys]; exact hs)
end
end
section
open PySem PySem.W PyProof.Rows PySem.Calls
section
noncomputable abbrev ns_findCycle : List Str := ["self", "n2i", "stack", "itstack", "seen", "node2stacki", "node"]
noncomputable abbrev gs_findCycle : List (Str × Value) := [("set", .type "set"), ("iter", .builtin "iter"), ("len", .builtin "len"), ("StopIteration", .type "StopIteration")]
theorem ok_findCycle (w : World) : FnOk (KT w) 157 fd_findCycle ns_findCycle gs_findCycle := fnOk_of (at_findCycle w) (by kernel_rfl!)
/-- the result of the search -/
noncomputable def CycOut (g : Gr) (cs₀ : List HP) (v : Value) (cs : List HP) : Prop :=
  (v = .none ∧ cs = cs₀ ∧ (∃ fin, A3 (Topo (suOf g) fin) fin.Nodup (∀ k ∈ keysOf g, k ∈ fin))) ∨ (E3 fun d xs n => A4 (v = .ref d) (xs ≠ [] ∧ xs.length ≤ 2000) (Way (suOf g) n n) (cs = RAW d xs :: cs₀))
noncomputable def MidR (R : Vals → List HP → Prop) (Q : Flow → Vals → List HP → Prop) (fl : Flow) (vs : Vals) (cs : List HP) : Prop := (fl = .next ∧ R vs cs) ∨ ∃ v, fl = .ret v ∧ Q (.ret v) vs cs
theorem G_midR {w : World} {A : Around} {fm : Fm} {vs : Vals} {cs : List HP} {E : Value → Vals → List HP → Prop} (R : Vals → List HP → Prop) {st : Stmt} {rest : List Stmt} {Q : Flow → Vals → List HP → Prop} (h : G w A fm (exec st fm.env) (MidR R Q) NoE vs cs) (k : ∀ vs cs, R vs cs → G w A fm (execs rest fm.env) Q E vs cs) :
    G w A fm (execs (st :: rest) fm.env) Q E vs cs :=
  G_cons (G.mono h (fun fl vs cs z => by
    rcases z with ⟨e, r⟩ | ⟨v, e, q⟩
    · subst e; exact k vs cs r
    · subst e; exact Thn_ret q) fun _ _ _ z => z.elim)
theorem setTy {w : World} {fm : Fm} {vs : Vals} {cs : List HP} {a : Addr} {S : Str → Bool} {n : Nat} (hm : SET w a S n ∈ cs) : ∀ s, Sit fm vs cs s → s.TypeIs (.ref a) "set" ∧ ∀ b, Value.ref a = .ref b → ∃ ob, s.heap.get? b = some ob ∧ ob.dict = none := fun s Z => by
  have h : s.heap.SetOf (sk w) a S n := (Z.own _ hm).1
  exact ⟨h.typeIs, h.noDict⟩
theorem dceAt {w : World} {fm : Fm} {vs : Vals} {cs : List HP} {d : Addr} {kvs : List (Str × Value)} {ep : Nat} (hm : DCE w d kvs ep ∈ cs) : ∀ s, Sit fm vs cs s → (DCT w d kvs).ok s.heap := fun s S => DCE.dct (S.own _ hm).1
theorem len_le {l keys : List Str} (nd : l.Nodup) (h : ∀ a ∈ l, a ∈ keys) : l.length ≤ keys.length := by
  have e : ∀ l : List Str, sumBy (fun _ => 1) l = l.length := by
    intro l
    induction l with
    | nil => rfl
    | cons a r ih => rw [sumBy, ih, List.length_cons]; omega
  have := sumBy_le (f := fun _ => 1) nd h
  rwa [e, e] at this
theorem CycSt.small {nds : List Nd} {g : Gr} {ab : Option Str} {es : List CEnt} {fin : List Str} {S : Str → Bool} {n N : Nat} (h : CycSt nds g ab es fin S n) (hN : g.length ≤ N) : es.length + fin.length ≤ N := by
  have := len_le h.dfs.nd h.dfs.sub
  rw [mkeys] at this
  simp only [List.length_append, ckeys, keysOf, List.length_map] at this
  omega
section
variable {w : World} {A : Around} {fm : Fm} {vs : Vals} {cs : List HP} {E : Value → Vals → List HP → Prop}
theorem G_AttrB {value : Expr} {attr : Str} {p : Pos} {Q : Value → Vals → List HP → Prop} (h : G w A fm (eval value fm.env) (fun o vs cs => G w A fm (getAttr o attr true) Q E vs cs) E vs cs) (hb : ∀ t, attributeBase value attr fm.env t = t) : G w A fm (eval (.Attribute value attr p) fm.env) Q E vs cs := fun s S => by
  rw [arm_eval_Attribute, hb]
  refine wpAny_bind (wpAny_mono (h s S) (fun o s₁ y => ?_) fun _ _ x => x)
  obtain ⟨_, _, S', q⟩ := y
  refine wpAny_bind (wpAny_standAt (wpAny_bind (wpAny_holding (wpAny_mono (q s₁ S') (fun r s₂ y => ?_) fun _ _ x => x))))
  exact wpAny_bind (wpAny_letTemporaryGo (wpAny_pure y))
theorem GX_perm {α : Type} {t : Sem α} {Q : α → Vals → List HP → Prop} {Er : Value → Shared → Prop} {cs' : List HP} (p : cs'.Perm cs) (h : GX w A fm t Q Er vs cs') : GX w A fm t Q Er vs cs := fun s S => h s (S.perm p)
theorem GX_starOut {α : Type} {t : Sem α} {Q : α → Vals → List HP → Prop} {Er : Value → Shared → Prop} {c : HP} {l : List HP} (h : GX w A fm t Q Er vs (c :: STAR l :: cs)) : GX w A fm t Q Er vs (STAR (c :: l) :: cs) := fun s S => h s S.starOut
theorem G_ExprA {e : Expr} {p : Pos} {Q : Flow → Vals → List HP → Prop} (h : G w A fm (eval e fm.env) (fun v vs cs => Q .next vs cs) E vs cs)
    (hs : notComp e = true) : G w A fm (exec (.Expr e p) fm.env) Q E vs cs := fun s S =>
  wpAny_Expr_any (h s S) (by unfold interactive; rw [S.fok.fk]; rfl) (swap_of hs)
theorem G_AssignS {o i value : Expr} {pos' p : Pos} {Q : Flow → Vals → List HP → Prop} (h : G w A fm (eval value fm.env) (fun v vs cs => G w A fm (eval o fm.env) (fun ov vs cs => G w A fm (eval i fm.env) (fun iv vs cs => G w A fm (setItem ov iv v) (fun _ => Q .next) E vs cs) E vs cs) E vs cs) E vs cs)
    (hs : notComp value = true) : G w A fm (exec (.Assign [.Subscript o i pos'] value p) fm.env) Q E vs cs := fun s S =>
  wpAny_Assign_Subscript (wpAny_mono (h s S) (fun v s₁ ⟨_, _, S', q⟩ => wpAny_mono (q s₁ S') (fun ov s₂ ⟨_, _, S', q⟩ => wpAny_mono (q s₂ S') (fun iv s₃ ⟨_, _, S', q⟩ => q s₃ S') fun _ _ x => x) fun _ _ x => x) fun _ _ x => x) (swap_of hs)
end
theorem sp_findCycle (gp : GP) (w : World) (x dx D ra : Addr) (po nf : Int) (g : Gr) (N : Nat) (rdl : List Str) (hN : N ≤ 900) (hc : ∀ k ∈ keysOf g, ∀ s ∈ suOf g k, s ∈ keysOf g) (cs₀ : List HP) (h0 : RUN w x dx D ra po nf g N rdl cs₀) :
    SpecX gp w (KT w) 1 (.ref 157) ⟨[.ref x], []⟩ (fun _ => True) cs₀ (CycOut g cs₀) .none (fun _ => False) := by
  obtain ⟨nds, tpo, tnf, rvs, hg, hs, rfl⟩ := h0
  refine SpecX.of_bodyF (ok_findCycle w) (by decide +kernel) rfl (binds := [("self", .ref x)]) (fun s _ _ => BindsTo.of_eq (by kernel_rfl!)) (locs (by kernel_rfl!)) (vs₀ := [some (.ref x), none, none, none, none, none, none]) ⟨rfl, trivial⟩ ?_
  intro A b hA hFA hFT T hB
  generalize hF0 : feet _ = F0
  refine GX.ofG ?_
  refine letG ?_
  intro fm Q0
  refine G_cons ?_
  cell_end 5 0 0
  refine G_newListR (by decide) fun sa => ?_
  cell_end 5 0 0
  refine G_newListR (by decide) fun ia => ?_
  cell_end 5 0 0
  refine G_set0 fun ea => ?_
  cell_end 5 0 0
  refine G_Dict0 fun na => ?_
  cell_end 5 0 0
  refine G_starNil ?_
  refine G_p1 (G_p2 (G_p3 (G_p4 ?_)))
  refine G_perm (List.perm_middle (l₁ := [_, _, _, _, _, _])).symm ?_
  refine G_dce fun ep => ?_
  refine G_For ?_
  cell_end 5 0 0
  let J1 : Nat → Vals → List HP → Prop := fun i vs cs => E4 fun nv fin S n => A4 (vs = [some (.ref x), some (.ref D), some (.ref sa), some (.ref ia), some (.ref ea), some (.ref na), nv]) (CycSt nds g none [] fin S n) (∀ k ∈ (keysOf g).take i, k ∈ fin) (cs = DCE w D (kvs nds) ep :: (cycCs w sa ia ea na [] S n ++ [TSO x dx D (.ref ra) po tpo nf tnf, NDS nds, RAW ra rvs]))
  refine ⟨_, _, _, J1, Src.keys hA.handled D (kvs nds) ep, ⟨none, [], _, 0, rfl, CycSt.start nds g, fun k hk => by simp at hk, rfl⟩, ?_, ?_, ?_⟩
  · rintro i vs cs s ⟨nv, fin, S, n, rfl, _, _, rfl⟩ Z
    exact (Z.own _ (.head _)).1
  · rintro i v vs cs X hi ⟨k, xv, t, hkx, rfl⟩ ⟨nv, fin, S, n, rfl, hst, hdone, rfl⟩
    refine G_sub (cs' := [DCE w D (kvs nds) ep, RAW sa [], RAW ia [], SET w ea S n, DCT w na [], STAR [], TSO x dx D (.ref ra) po tpo nf tnf, NDS nds, RAW ra rvs, X]) (.refl _) ?_
    cell_end 5 0 0
    refine G_inSet (n := n) (S := S) (fun s Z => (Z.own _ (.tail _ (.tail _ (.tail _ (.head _))))).1) ?_
    cell_end 5 0 0
    have hkk : (keysOf g)[i]? = some k := by
      rw [← hg.are.keys, List.getElem?_map]
      have : (kvs nds)[i]? = (nds[i]?).map fun n => (n.key, Value.ref n.x) := by simp [kvs]
      rw [this] at hkx
      cases q : nds[i]? with
      | none => rw [q] at hkx; cases hkx
      | some n' => rw [q] at hkx; cases hkx; rfl
    have htk : (keysOf g).take (i + 1) = (keysOf g).take i ++ [k] := by rw [List.take_add_one, hkk]; rfl
    refine bif_s (fun h1 => ?_) (fun h1 => ?_)
    · cell_end 5 0 0
      refine ⟨_, .refl _, some (.str k t), fin, S, n, rfl, hst, fun k' hk' => ?_, rfl⟩
      rw [htk] at hk'
      rcases List.mem_append.mp hk' with q | q
      · exact hdone k' q
      · cases List.mem_singleton.mp q
        exact (hst.seen k).mp h1
    · cell_end 5 0 0
      have hk0 : k ∈ keysOf g := List.mem_of_getElem? hkk
      let J21 : Nat → Vals → List HP → Prop := fun m vs cs => E6 fun b t' es fin S n => A7 (vs = [some (.ref x), some (.ref D), some (.ref sa), some (.ref ia), some (.ref ea), some (.ref na), some (.str b t')]) (CycSt nds g (some b) es fin S n) (b ∈ keysOf g) (∀ k ∈ (keysOf g).take i, k ∈ fin) (k = b ∨ S k = true) (m = sumBy (wt (suOf g)) (keysOf g) - used (suOf g) (es.map fun e => (e.nd.key, e.i)) fin) (cs = [DCE w D (kvs nds) ep, RAW sa (es.reverse.map fun e => .str e.nd.key e.tk), RAW ia (es.reverse.map fun e => .ref e.W), SET w ea S n, DCT w na (nkOf es), STAR (es.map CEnt.itr), TSO x dx D (.ref ra) po tpo nf tnf, NDS nds, RAW ra rvs, X])
      refine G_While J21 ⟨k, t, [], fin, S, n, rfl, ⟨hst.dfs.none, hst.mem, hst.seen, hst.cnt⟩, hk0, hdone, .inl rfl, rfl, rfl⟩ ?_
      rintro m vs cs ⟨b', t', es, fin, S, n, rfl, hst, hbk, hdone, hkb, rfl, rfl⟩
      have hsm := hst.small hg.len
      cell_end 1 0 0
      cell_end 1 0 0
      cell_end 1 0 0
      let J22 : Vals → List HP → Prop := fun vs cs => E5 fun nv es' fin' S' n' => A6 (vs = [some (.ref x), some (.ref D), some (.ref sa), some (.ref ia), some (.ref ea), some (.ref na), nv]) (CycSt nds g none es' fin' S' n') (∀ k ∈ (keysOf g).take i, k ∈ fin') (S' k = true) (used (suOf g) (es.map fun e => (e.nd.key, e.i)) fin ≤ used (suOf g) (es'.map fun e => (e.nd.key, e.i)) fin') (cs = [DCE w D (kvs nds) ep, RAW sa (es'.reverse.map fun e => .str e.nd.key e.tk), RAW ia (es'.reverse.map fun e => .ref e.W), SET w ea S' n', DCT w na (nkOf es'), STAR (es'.map CEnt.itr), TSO x dx D (.ref ra) po tpo nf tnf, NDS nds, RAW ra rvs, X])
      refine G_midR J22 ?_ ?_
      · cell_end 5 0 0
        refine G_inSet (n := n) (S := S) (fun s Z => (Z.own _ (.tail _ (.tail _ (.tail _ (.head _))))).1) ?_
        cell_end 5 0 0
        refine bif_s (fun h2 => ?_) (fun h2 => ?_)
        · cell_end 5 0 0
          refine G_din (kvs := nkOf es) (fun s Z => (Z.own _ (.tail _ (.tail _ (.tail _ (.tail _ (.head _)))))).1) ?_
          by_cases hb : b' ∈ ckeys es
          · obtain ⟨j, tj, hv, hj⟩ := nkOf_some hb
            rw [hv]
            cell_end 5 0 0
            refine bif_s (fun _ => ?_) (fun q => by cases q)
            refine G_undce ?_
            cell_end 5 0 0
            refine G_ditem (dctAt (by cell_end 7 0 0)) hv ?_
            cell_end 5 0 0
            refine ⟨sa, _, some (j : Nat), none, rfl, sitRaw (by cell_end 7 0 0), szl (by simp only [List.length_map, List.length_reverse]; omega), .int _ _, .none, fun da => ?_⟩
            obtain ⟨dl, hdl, hdn⟩ : ∃ dl, (slicePick (es.reverse.map fun e => Value.str e.nd.key e.tk).toArray (some (j : Nat)) none none).toList = dl ∧ dl.length ≤ 1000 := ⟨_, rfl, by rw [slicePick_from']; simp only [List.length_drop, List.length_map, List.length_reverse]; omega⟩
            rw [hdl]
            cell_end 5 0 0
            refine G_newListR (szl (by simp)) fun ba => ?_
            refine G_addL (xs := dl) (ys := [.str b' t']) (fun s Z => (Z.own _ (by cell_end 7 0 0)).1) (fun s Z => (Z.own _ (by cell_end 7 0 0)).1) (szl (by simp only [List.length_singleton]; omega)) fun da2 => ?_
            cell_end 1 0 0
            refine .inr ⟨_, rfl, [RAW da2 (dl ++ [.str b' t']), RAW ba [.str b' t'], RAW da dl, DCT w D (kvs nds), RAW sa (es.reverse.map fun e => .str e.nd.key e.tk), RAW ia (es.reverse.map fun e => .ref e.W), SET w ea S n, DCT w na (nkOf es), STAR (es.map CEnt.itr), TSO x dx D (.ref ra) po tpo nf tnf, NDS nds, RAW ra rvs], .refl _, ?_⟩
            refine ⟨[RAW da2 (dl ++ [.str b' t']), TSO x dx D (.ref ra) po tpo nf tnf, DCT w D (kvs nds), NDS nds, RAW ra rvs], [RAW ba [.str b' t'], RAW da dl, RAW sa (es.reverse.map fun e => .str e.nd.key e.tk), RAW ia (es.reverse.map fun e => .ref e.W), SET w ea S n, DCT w na (nkOf es), STAR (es.map CEnt.itr)], ?_, .inr ⟨da2, dl ++ [.str b' t'], b', rfl, ?_, hst.cycle hb, rfl⟩⟩
            · cell_end 9 0 0
            · exact ⟨by simp, by rw [List.length_append]; simp only [List.length_singleton]; omega⟩
          · rw [nkOf_none hb]
            cell_end 5 0 0
            refine bif_s (fun q => by cases q) (fun _ => ?_)
            cell_end 5 0 0
            refine .inl ⟨rfl, _, es, fin, S, n, rfl, hst.known h2 hb, hdone, ?_, Nat.le_refl _, rfl⟩
            rcases hkb with q | q
            · rw [q]; exact h2
            · exact q
        · cell_end 5 0 0
          refine G_m1 F.slot_set_add F.type_set_add F.plainAttrs_set ?_ (by k_dflt rfl) (by k_dflt rfl) (by k_dflt rfl)
          cell_end 5 0 0
          refine ⟨setTy (by cell_end 7 0 0), ?_⟩
          cell_end 5 0 0
          refine G_perm (cs' := [SET w ea S n, DCE w D (kvs nds) ep, RAW sa (es.reverse.map fun e => .str e.nd.key e.tk), RAW ia (es.reverse.map fun e => .ref e.W), DCT w na (nkOf es), STAR (es.map CEnt.itr), TSO x dx D (.ref ra) po tpo nf tnf, NDS nds, RAW ra rvs, X]) (by cell_end 9 0 0) ?_
          refine G_sAdd h2 (by rw [hst.cnt]; omega) ?_
          refine ⟨fun _ q => (nomatch q), ?_⟩
          cell_end 5 0 0
          obtain ⟨nd, hnm, rfl, hval⟩ := val_in hg.are hbk
          cell_end 6 0 0
          cell_end 5 0 0
          refine ⟨rawTy (by cell_end 7 0 0), ?_⟩
          cell_end 5 0 0
          refine G_AttrB ?_ (fun _ => rfl)
          cell_end 5 0 0
          refine G_ditem (d := D) (kvs := kvs nds) (dceAt (ep := ep) (by cell_end 7 0 0)) hval ?_
          cell_end 5 0 0
          refine G_nd2 rfl (by cell_end 7 0 0) hnm ?_
          cell_end 5 0 0
          refine G_iterL (ndList (by cell_end 7 0 0) hnm) fun I => ?_
          cell_end 5 0 0
          refine G_bindNext fun W => ?_
          refine G_perm (cs' := [RAW ia (es.reverse.map fun e => .ref e.W), ITR W I nd.la 0, SET w ea (fun k => S k || decide (k = nd.key)) (n + 1), DCE w D (kvs nds) ep, RAW sa (es.reverse.map fun e => .str e.nd.key e.tk), DCT w na (nkOf es), STAR (es.map CEnt.itr), TSO x dx D (.ref ra) po tpo nf tnf, NDS nds, RAW ra rvs, X]) (by cell_end 9 0 0) ?_
          refine G_appendR (szl (by simp only [List.length_map, List.length_reverse]; omega)) ?_
          refine ⟨fun _ q => (nomatch q), ?_⟩
          cell_end 1 0 0
          cell_end 1 0 0
          refine G_AssignS ?_ (by k_dflt rfl)
          cell_end 5 0 0
          refine G_len (sitRaw (by cell_end 7 0 0)) (by simp only [List.length_map, List.length_reverse]; omega) fun ti => ?_
          cell_end 5 0 0
          refine G_perm (cs' := [DCT w na (nkOf es), RAW ia ((es.reverse.map fun e => .ref e.W) ++ [.ref W]), ITR W I nd.la 0, SET w ea (fun k => S k || decide (k = nd.key)) (n + 1), DCE w D (kvs nds) ep, RAW sa (es.reverse.map fun e => .str e.nd.key e.tk), STAR (es.map CEnt.itr), TSO x dx D (.ref ra) po tpo nf tnf, NDS nds, RAW ra rvs, X]) (by cell_end 9 0 0) ?_
          refine G_dset (by rw [nkOf_len]; omega) ?_
          cell_end 5 0 0
          cell_end 6 0 0
          cell_end 5 0 0
          refine ⟨rawTy (by cell_end 7 0 0), ?_⟩
          cell_end 5 0 0
          refine G_perm (cs' := [RAW sa (es.reverse.map fun e => .str e.nd.key e.tk), DCT w na (stored (nkOf es) nd.key (.int (es.reverse.map fun e => Value.str e.nd.key e.tk).length ti)), RAW ia ((es.reverse.map fun e => .ref e.W) ++ [.ref W]), ITR W I nd.la 0, SET w ea (fun k => S k || decide (k = nd.key)) (n + 1), DCE w D (kvs nds) ep, STAR (es.map CEnt.itr), TSO x dx D (.ref ra) po tpo nf tnf, NDS nds, RAW ra rvs, X]) (by cell_end 9 0 0) ?_
          refine G_appendR (szl (by simp only [List.length_map, List.length_reverse]; omega)) ?_
          refine ⟨fun _ q => (nomatch q), ?_⟩
          cell_end 1 0 0
          refine G_perm (cs' := [ITR W I nd.la 0, STAR (es.map CEnt.itr), RAW sa ((es.reverse.map fun e => .str e.nd.key e.tk) ++ [.str nd.key t']), DCT w na (stored (nkOf es) nd.key (.int (es.reverse.map fun e => Value.str e.nd.key e.tk).length ti)), RAW ia ((es.reverse.map fun e => .ref e.W) ++ [.ref W]), SET w ea (fun k => S k || decide (k = nd.key)) (n + 1), DCE w D (kvs nds) ep, TSO x dx D (.ref ra) po tpo nf tnf, NDS nds, RAW ra rvs, X]) (by cell_end 9 0 0) ?_
          refine G_starIn ?_
          refine G_perm (cs' := [DCE w D (kvs nds) ep, RAW sa ((es.reverse.map fun e => .str e.nd.key e.tk) ++ [.str nd.key t']), RAW ia ((es.reverse.map fun e => .ref e.W) ++ [.ref W]), SET w ea (fun k => S k || decide (k = nd.key)) (n + 1), DCT w na (stored (nkOf es) nd.key (.int (es.reverse.map fun e => Value.str e.nd.key e.tk).length ti)), STAR (ITR W I nd.la 0 :: es.map CEnt.itr), TSO x dx D (.ref ra) po tpo nf tnf, NDS nds, RAW ra rvs, X]) (by cell_end 9 0 0) ?_
          cell_end 5 0 0
          have hnk : nd.key ∉ ckeys es := fun q => by rw [(hst.seen _).mpr (List.mem_append_left _ q)] at h2; cases h2
          refine .inl ⟨rfl, _, ⟨W, I, nd, 0, t', ti⟩ :: es, fin, _, _, rfl, hst.push (e := ⟨W, I, nd, 0, t', ti⟩) hbk rfl hnm h2, hdone, ?_, ?_, ?_⟩
          · rcases hkb with q | q
            · rw [q]; simp
            · rw [q]; simp
          · simp only [used, usedS, List.map_cons]; omega
          · rw [nkOf_stored hnk]
            simp only [List.reverse_cons, List.map_append, List.map_cons, List.map_nil, List.length_map, List.length_reverse, nkOf]
            rfl
      · rintro vs cs ⟨nv, es', fin', S', n', rfl, hst', hdone', hk', hu, rfl⟩
        cell_end 1 0 0
        have hu0 : used (suOf g) (es.map fun e => (e.nd.key, e.i)) fin ≤ used (suOf g) (es'.map fun e => (e.nd.key, e.i)) fin' := hu
        clear hu
        let J23 : Nat → Vals → List HP → Prop := fun m2 vs cs => E5 fun nv es' fin' S' n' => A7 (vs = [some (.ref x), some (.ref D), some (.ref sa), some (.ref ia), some (.ref ea), some (.ref na), nv]) (CycSt nds g none es' fin' S' n') (∀ k ∈ (keysOf g).take i, k ∈ fin') (S' k = true) (used (suOf g) (es.map fun e => (e.nd.key, e.i)) fin ≤ used (suOf g) (es'.map fun e => (e.nd.key, e.i)) fin') (m2 = es'.length) (cs = [DCE w D (kvs nds) ep, RAW sa (es'.reverse.map fun e => .str e.nd.key e.tk), RAW ia (es'.reverse.map fun e => .ref e.W), SET w ea S' n', DCT w na (nkOf es'), STAR (es'.map CEnt.itr), TSO x dx D (.ref ra) po tpo nf tnf, NDS nds, RAW ra rvs, X])
        refine G_While J23 ⟨nv, es', fin', S', n', rfl, hst', hdone', hk', hu0, rfl, rfl⟩ ?_
        clear hst' hdone' hk' hu0
        rintro m2 vs cs ⟨nv, es', fin', S', n', rfl, hst', hdone', hk', hu, rfl, rfl⟩
        have hsm' := hst'.small hg.len
        cell_end 5 0 0
        refine G_truthyL (sitRaw (by cell_end 7 0 0)) (by simp only [List.length_map, List.length_reverse]; omega) ?_
        cases es' with
        | nil =>
          refine bif_s (fun q => by simp at q) (fun _ => ?_)
          cell_end 5 0 0
          refine ⟨[DCE w D (kvs nds) ep, RAW sa [], RAW ia [], SET w ea S' n', DCT w na [], STAR [], TSO x dx D (.ref ra) po tpo nf tnf, NDS nds, RAW ra rvs], .refl _, nv, fin', S', n', rfl, hst', fun k2 hk2 => ?_, rfl⟩
          rw [htk] at hk2
          rcases List.mem_append.mp hk2 with q | q
          · exact hdone' k2 q
          · cases List.mem_singleton.mp q
            exact (hst'.seen k).mp hk'
        | cons e r =>
          refine bif_s (fun _ => ?_) (fun q => by simp at q)
          cell_end 1 0 0
          have hem := hst'.mem e (.head _)
          obtain ⟨pre, post, su, e1, hsu, hmem, _⟩ := hg.are.at hg.nd hem
          have hse : suOf g e.nd.key = su := su_mem hg.nd hmem
          have hek : e.nd.key ∈ keysOf g := hst'.dfs.sub _ (.head _)
          have hne : e.nd.key ∉ ckeys r := by
            have := hst'.dfs.nd
            rw [mkeys] at this
            exact (List.nodup_cons.mp (List.nodup_append.mp this).1).1
          have e2 : ((e :: r).reverse.map fun e => Value.str e.nd.key e.tk) = (r.reverse.map fun e => Value.str e.nd.key e.tk) ++ [.str e.nd.key e.tk] := by simp
          have e3 : ((e :: r).reverse.map fun e => Value.ref e.W) = (r.reverse.map fun e => Value.ref e.W) ++ [.ref e.W] := by simp
          have hrl : r.length ≤ 900 := by simp only [List.length_cons] at hsm'; omega
          rw [e2, e3]
          let J24 : Vals → List HP → Prop := fun vs cs => (suOf g e.nd.key)[e.i]? = none ∧ vs = [some (.ref x), some (.ref D), some (.ref sa), some (.ref ia), some (.ref ea), some (.ref na), nv] ∧ cs = [STAR (r.map CEnt.itr), DCE w D (kvs nds) ep, RAW sa ((r.reverse.map fun e => Value.str e.nd.key e.tk) ++ [.str e.nd.key e.tk]), RAW ia ((r.reverse.map fun e => Value.ref e.W) ++ [.ref e.W]), SET w ea S' n', DCT w na (nkOf (e :: r)), TSO x dx D (.ref ra) po tpo nf tnf, NDS nds, RAW ra rvs, X]
          refine G_TryStop J24 hFT rfl rfl (by cell_end 4 0 0) ?_ ?_
          · refine GX_cons (GX_Assign (GX_CallW ?_) (by k_dflt rfl))
            refine G_perm (cs' := [STAR ((e :: r).map CEnt.itr), DCE w D (kvs nds) ep, RAW sa ((r.reverse.map fun e => Value.str e.nd.key e.tk) ++ [.str e.nd.key e.tk]), RAW ia ((r.reverse.map fun e => Value.ref e.W) ++ [.ref e.W]), SET w ea S' n', DCT w na (nkOf (e :: r)), TSO x dx D (.ref ra) po tpo nf tnf, NDS nds, RAW ra rvs, X]) (by cell_end 9 0 0) ?_
            refine G_starOut (c := CEnt.itr e) (l := r.map CEnt.itr) ?_
            cell_end 5 0 0
            refine G_negI fun t1 => ?_
            cell_end 5 0 0
            refine G_itemN (v := .ref e.W) (sitRaw (by cell_end 7 0 0)) (by decide) (by simp only [List.length_append, List.length_singleton]; omega) (by decide) (by simp only [List.length_append, List.length_singleton]; rw [show (-1 + ((((r.reverse.map fun e => Value.ref e.W).length + 1 : Nat)) : Int)).toNat = (r.reverse.map fun e => Value.ref e.W).length by omega]; simp) ?_
            refine ⟨e.W, e.I, rfl, fun s Z => (Z.own (CEnt.itr e) (by cell_end 7 0 0)).1.2.1, ?_⟩
            cases hb : (suOf g e.nd.key)[e.i]? with
            | some b1 =>
              obtain ⟨tb, hx⟩ := hsu.getD (hse ▸ hb)
              refine GX.ofG (G_nextItem (ndList (by cell_end 7 0 0) hem) hx ?_)
              refine ⟨_, by cell_end 3 0 0, rfl, ?_⟩
              refine G_starIn (c := CEnt.itr { e with i := e.i + 1 }) ?_
              refine G_perm (cs' := [DCE w D (kvs nds) ep, RAW sa ((r.reverse.map fun e => Value.str e.nd.key e.tk) ++ [.str e.nd.key e.tk]), RAW ia ((r.reverse.map fun e => Value.ref e.W) ++ [.ref e.W]), SET w ea S' n', DCT w na (nkOf (e :: r)), STAR (CEnt.itr { e with i := e.i + 1 } :: r.map CEnt.itr), TSO x dx D (.ref ra) po tpo nf tnf, NDS nds, RAW ra rvs, X]) (by cell_end 9 0 0) ?_
              cell_end 5 0 0
              have htake := hst'.take hb
              have hu2 := (hst'.dfs.take hb).2
              have hle := htake.dfs.used_le
              refine ⟨_, ?_, b1, tb, { e with i := e.i + 1 } :: r, fin', S', n', rfl, htake, hc _ hek _ (List.mem_of_getElem? hb), hdone', .inr hk', rfl, ?_⟩
              · simp only [List.map_cons] at hle hu2 hu ⊢
                omega
              · simp [nkOf]
            | none =>
              have hx : e.nd.su[e.i]? = none := by
                have hb := hb
                rw [hse] at hb
                rw [List.getElem?_eq_none_iff] at hb ⊢
                rw [hsu.length]; exact hb
              exact GX_nextEnd hA.handled (ndList (by cell_end 7 0 0) hem) hx ⟨hb, rfl, rfl⟩
          · rintro ex vs cs ⟨hb, rfl, rfl⟩
            cell_end 1 0 0
            refine G_Del1 ?_
            cell_end 5 0 0
            refine G_m0 F.slot_list_pop F.type_list_pop F.plainAttrs_list ?_ (by k_dflt rfl) (by k_dflt rfl)
            cell_end 5 0 0
            refine ⟨rawTy (by cell_end 7 0 0), ?_⟩
            refine G_perm (cs' := [RAW sa ((r.reverse.map fun e => Value.str e.nd.key e.tk) ++ [.str e.nd.key e.tk]), STAR (r.map CEnt.itr), DCE w D (kvs nds) ep, RAW ia ((r.reverse.map fun e => Value.ref e.W) ++ [.ref e.W]), SET w ea S' n', DCT w na (nkOf (e :: r)), TSO x dx D (.ref ra) po tpo nf tnf, NDS nds, RAW ra rvs, X]) (by cell_end 9 0 0) ?_
            refine G_popR (Nat.lt_of_lt_of_le (by simp only [List.length_map, List.length_reverse]; exact Nat.lt_succ_of_le hrl) (szl (n := 901) (by decide))) ?_
            cell_end 5 0 0
            refine G_perm (cs' := [DCT w na (nkOf (e :: r)), RAW sa (r.reverse.map fun e => .str e.nd.key e.tk), STAR (r.map CEnt.itr), DCE w D (kvs nds) ep, RAW ia ((r.reverse.map fun e => Value.ref e.W) ++ [.ref e.W]), SET w ea S' n', TSO x dx D (.ref ra) po tpo nf tnf, NDS nds, RAW ra rvs, X]) (by cell_end 9 0 0) ?_
            obtain ⟨j, tj, hv, _⟩ := nkOf_some (es := e :: r) (k := e.nd.key) (.head _)
            refine G_ddel (by rw [nkOf_len, List.length_cons]; omega) hv ?_
            rw [nkOf_without hne]
            cell_end 1 0 0
            cell_end 1 0 0
            refine G_ExprA ?_ (by k_dflt rfl)
            refine G_m0 F.slot_list_pop F.type_list_pop F.plainAttrs_list ?_ (by k_dflt rfl) (by k_dflt rfl)
            cell_end 5 0 0
            refine ⟨rawTy (by cell_end 7 0 0), ?_⟩
            refine G_perm (cs' := [RAW ia ((r.reverse.map fun e => Value.ref e.W) ++ [.ref e.W]), DCT w na (nkOf r), RAW sa (r.reverse.map fun e => .str e.nd.key e.tk), STAR (r.map CEnt.itr), DCE w D (kvs nds) ep, SET w ea S' n', TSO x dx D (.ref ra) po tpo nf tnf, NDS nds, RAW ra rvs, X]) (by cell_end 9 0 0) ?_
            refine G_popR (Nat.lt_of_lt_of_le (by simp only [List.length_map, List.length_reverse]; exact Nat.lt_succ_of_le hrl) (szl (n := 901) (by decide))) ?_
            cell_end 1 0 0
            refine G_perm (cs' := [DCE w D (kvs nds) ep, RAW sa (r.reverse.map fun e => .str e.nd.key e.tk), RAW ia (r.reverse.map fun e => .ref e.W), SET w ea S' n', DCT w na (nkOf r), STAR (r.map CEnt.itr), TSO x dx D (.ref ra) po tpo nf tnf, NDS nds, RAW ra rvs, X]) (by cell_end 9 0 0) ?_
            cell_end 5 0 0
            have hu2 := (hst'.dfs.pop hb).2
            refine ⟨_, Nat.lt_succ_self _, nv, r, e.nd.key :: fin', S', n', rfl, hst'.pop hb, fun k2 hk2 => .tail _ (hdone' k2 hk2), hk', ?_, rfl, rfl⟩
            simp only [List.map_cons] at hu2 hu
            omega
  · rintro vs cs ⟨nv, fin, S, n, rfl, hst, hdone, rfl⟩
    refine Thn_next ?_
    refine G_undce ?_
    refine G_sub (cs' := [DCT w D (kvs nds), TSO x dx D (.ref ra) po tpo nf tnf, NDS nds, RAW ra rvs]) (.cons_cons _ (.cons _ (.cons _ (.cons _ (.cons _ (.cons _ (.refl _))))))) ?_
    refine G_p1 ?_
    cell_end 5 0 0
    have nd := hst.dfs.nd
    refine Out.all (.inl ⟨rfl, rfl, fin, hst.dfs.topo, nd, fun k hk => hdone k ?_⟩)
    rw [List.take_of_length_le]
    · exact hk
    · rw [← hg.are.keys]; simp [kvs]
end
end
section
open PySem
section
noncomputable abbrev Prs := List (Str × Str)
noncomputable def pin (P : Prs) (l : List Str) (k : Str) : Str × Str → Bool := fun p => (p.1 == k) && l.any (· == p.2)
noncomputable def kept (P : Prs) (here : List Str) (one : Str) : List Str := (P.filter (pin P here one)).map (·.2)
noncomputable def farther (P : Prs) (here : List Str) : List Str := here.filter fun one => !(kept P here one).isEmpty
noncomputable def gone (P : Prs) (here : List Str) : List Str := here.filter fun one => !((farther P here).any (· == one))
noncomputable def cnp (P : Prs) (l : List Str) (k : Str) : Nat := P.countP (pin P l k)
theorem any_mem {l : List Str} {k : Str} : (l.any (· == k)) = true ↔ k ∈ l := by
  rw [List.any_eq_true]
  exact ⟨fun ⟨x, hx, e⟩ => (beq_iff_eq.mp e) ▸ hx, fun h => ⟨k, h, beq_iff_eq.mpr rfl⟩⟩
theorem kept_len (P : Prs) (l : List Str) (k : Str) : (kept P l k).length = cnp P l k := by
  unfold kept cnp
  rw [List.length_map, List.countP_eq_length_filter]
theorem kept_ne {P : Prs} {l : List Str} {k : Str} : (!(kept P l k).isEmpty) = true ↔ cnp P l k ≠ 0 := by
  rw [← kept_len]
  cases kept P l k <;> simp
theorem far_mem {P : Prs} {h : List Str} {k : Str} : k ∈ farther P h ↔ k ∈ h ∧ cnp P h k ≠ 0 := by
  unfold farther
  rw [List.mem_filter, kept_ne]
theorem gone_mem {P : Prs} {h : List Str} {k : Str} : k ∈ gone P h ↔ k ∈ h ∧ cnp P h k = 0 := by
  unfold gone
  rw [List.mem_filter]
  have : (!((farther P h).any (· == k))) = true ↔ k ∉ farther P h := by
    rw [← any_mem]
    cases (farther P h).any (· == k) <;> simp
  rw [this, far_mem]
  exact ⟨fun ⟨a, b⟩ => ⟨a, Classical.byContradiction fun q => b ⟨a, q⟩⟩, fun ⟨a, b⟩ => ⟨a, fun q => q.2 b⟩⟩
theorem cnp_pos {P : Prs} {l : List Str} {k : Str} : cnp P l k ≠ 0 ↔ ∃ p ∈ P, p.1 = k ∧ p.2 ∈ l := by
  unfold cnp
  rw [← Nat.pos_iff_ne_zero, List.countP_pos_iff]
  constructor
  · rintro ⟨p, hp, e⟩
    obtain ⟨e1, e2⟩ := Bool.and_eq_true_iff.mp e
    exact ⟨p, hp, beq_iff_eq.mp e1, any_mem.mp e2⟩
  · rintro ⟨p, hp, e1, e2⟩
    exact ⟨p, hp, Bool.and_eq_true_iff.mpr ⟨beq_iff_eq.mpr e1, any_mem.mpr e2⟩⟩
theorem countP_split {α : Type} {f a b : α → Bool} : ∀ {P : List α}, (∀ p ∈ P, f p = (a p || b p)) → (∀ p ∈ P, a p = true → b p = false) → P.countP f = P.countP a + P.countP b
  | [], _, _ => rfl
  | p :: P, h1, h2 => by
    have ih := countP_split (P := P) (fun q hq => h1 q (.tail _ hq)) fun q hq => h2 q (.tail _ hq)
    have e1 := h1 p (.head _)
    have e2 := h2 p (.head _)
    rw [List.countP_cons, List.countP_cons, List.countP_cons, ih, e1]
    cases ha : a p <;> cases hb : b p <;> simp_all <;> omega
theorem cnp_split {P : Prs} {h l r : List Str} {k : Str} (h1 : ∀ x, x ∈ h ↔ x ∈ l ∨ x ∈ r) (h2 : ∀ x ∈ l, x ∉ r) : cnp P h k = cnp P l k + cnp P r k := by
  refine countP_split (fun p _ => ?_) fun p _ e => ?_
  · have : h.any (· == p.2) = (l.any (· == p.2) || r.any (· == p.2)) := by
      rw [Bool.eq_iff_iff, Bool.or_eq_true, any_mem, any_mem, any_mem]; exact h1 _
    unfold pin
    rw [this, Bool.and_or_distrib_left]
  · obtain ⟨e1, e2⟩ := Bool.and_eq_true_iff.mp e
    have := h2 _ (any_mem.mp e2)
    unfold pin
    rw [show r.any (· == p.2) = false from Bool.eq_false_iff.mpr fun q => this (any_mem.mp q), Bool.and_false]
/-- the successors -/
noncomputable def sus (P : Prs) (k : Str) : List Str := (P.filter fun p => p.2 == k).map (·.1)
theorem mem_sus {P : Prs} {k s : Str} : s ∈ sus P k ↔ (s, k) ∈ P := by
  unfold sus
  rw [List.mem_map]
  constructor
  · rintro ⟨⟨a, b⟩, hp, rfl⟩
    obtain ⟨h1, h2⟩ := List.mem_filter.mp hp
    have : b = k := beq_iff_eq.mp h2
    subst this; exact h1
  · intro h
    exact ⟨(s, k), List.mem_filter.mpr ⟨h, beq_iff_eq.mpr rfl⟩, rfl⟩
theorem count_sus (P : Prs) (k s : Str) : (sus P k).count s = cnp P [k] s := by
  unfold sus cnp
  induction P with
  | nil => rfl
  | cons p P ih =>
    rw [List.filter_cons, List.countP_cons]
    have e : pin (p :: P) [k] s p = ((p.1 == s) && (p.2 == k)) := by
      unfold pin
      simp [Bool.beq_comm (a := k)]
    have e2 : pin (p :: P) [k] s = pin P [k] s := rfl
    rw [e, e2, ← ih]
    cases h1 : (p.2 == k)
    · simp
    · rw [if_pos rfl, List.map_cons, List.count_cons]
      simp
theorem count_flat (P : Prs) (s : Str) : ∀ {l : List Str}, l.Nodup → (l.flatMap (sus P)).count s = cnp P l s
  | [], _ => by
    unfold cnp
    have : ∀ p ∈ P, pin P [] s p = false := fun p _ => by unfold pin; simp
    rw [List.countP_eq_zero.mpr fun p hp => by rw [this p hp]; simp]; rfl
  | k :: r, nd => by
    obtain ⟨h1, h2⟩ := List.nodup_cons.mp nd
    rw [List.flatMap_cons, List.count_append, count_flat P s h2, count_sus]
    refine (cnp_split (l := [k]) (r := r) (fun x => ?_) fun x hx => ?_).symm
    · rw [List.mem_cons, List.mem_singleton]
    · rw [List.mem_singleton.mp hx]; exact h1
/-- the state inside a round: L: the steps down so far -/
structure MidK (np0 : Str → Nat) (dom : Str → Prop) (st : Gr × List Str) (L : List Str) : Prop where
  np : ∀ s, dom s → npOf st.1 s = np0 s - L.count s
  nd : st.2.Nodup
  mem : ∀ s, s ∈ st.2 ↔ s ∈ L ∧ np0 s = L.count s
variable {np0 : Str → Nat} {dom : Str → Prop} {st : Gr × List Str} {L : List Str}
theorem MidK.decr {s : Str} (h : MidK np0 dom st L) (hk : s ∈ keysOf st.1) (hg : dom s) (hc : L.count s + 1 ≤ np0 s) : MidK np0 dom (decr st s) (L ++ [s]) := by
  have hnp := h.np s hg
  have hn : npOf (gBump st.1 s (-1)) s = np0 s - (L.count s + 1 : Nat) := by rw [np_bump hk, if_pos rfl, hnp]; omega
  have hs : s ∉ st.2 := fun q => by have := ((h.mem s).mp q).2; omega
  have c1 : (L ++ [s]).count s = L.count s + 1 := by rw [List.count_append, List.count_singleton_self]
  have c2 : ∀ j, j ≠ s → (L ++ [s]).count j = L.count j := fun j hj => by rw [List.count_append, List.count_eq_zero_of_not_mem (fun q => hj (List.mem_singleton.mp q)), Nat.add_zero]
  refine ⟨fun j hj => ?_, ?_, fun j => ?_⟩
  · show npOf (gBump st.1 s (-1)) j = _
    by_cases q : j = s
    · subst q; rw [hn, c1]
    · rw [np_bump hk, if_neg q, c2 j q]; exact h.np j hj
  · unfold Mine.decr
    dsimp only
    split
    · exact List.nodup_append.mpr ⟨h.nd, by simp, fun a ha b hb q => by cases List.mem_singleton.mp hb; exact hs (q ▸ ha)⟩
    · exact h.nd
  · unfold Mine.decr
    dsimp only
    by_cases q : j = s
    · subst q
      rw [c1]
      by_cases z : npOf (gBump st.1 j (-1)) j = 0
      · rw [if_pos z]
        rw [hn] at z
        exact ⟨fun _ => ⟨by simp, by omega⟩, fun _ => by simp⟩
      · rw [if_neg z]
        rw [hn] at z
        exact ⟨fun y => absurd y hs, fun ⟨_, y⟩ => by omega⟩
    · rw [c2 j q]
      have e1 : j ∈ L ++ [s] ↔ j ∈ L := by simp [q]
      rw [e1, ← h.mem j]
      split
      · simp [q]
      · exact Iff.rfl
theorem MidK.decrs : ∀ {l : List Str} {st : Gr × List Str} {L : List Str}, MidK np0 dom st L → (∀ s ∈ l, s ∈ keysOf st.1 ∧ dom s) → (∀ s, (L ++ l).count s ≤ np0 s) → MidK np0 dom (l.foldl Mine.decr st) (L ++ l)
  | [], st, L, h, _, _ => by rw [List.append_nil]; exact h
  | s :: l, st, L, h, hk, hc => by
    have h1 := hk s (.head _)
    have hcs := hc s
    rw [List.count_append, List.count_cons_self] at hcs
    have := (h.decr h1.1 h1.2 (by omega)).decrs (l := l) (fun x hx => ⟨by
      show x ∈ keysOf (gBump st.1 s (-1))
      rw [bump_keys]; exact (hk x (.tail _ hx)).1, (hk x (.tail _ hx)).2⟩) (fun x => by rw [List.append_assoc]; exact hc x)
    rw [List.append_assoc] at this
    exact this
theorem MidK.set {k : Str} {d : Int} (h : MidK np0 dom st L) (hk : k ∈ keysOf st.1) (hg : ¬ dom k) : MidK np0 dom (gSet st.1 k d, st.2) L :=
  ⟨fun s hs => by
    show npOf (gSet st.1 k d) s = _
    rw [np_set hk, if_neg (fun q : s = k => hg (q ▸ hs))]; exact h.np s hs, h.nd, h.mem⟩
theorem done1_keys (st : Gr × List Str) (k : Str) : keysOf (done1 st k).1 = keysOf st.1 := by unfold done1; rw [decrs_keys]; exact gSet_keys ..
theorem done1_su (st : Gr × List Str) (k j : Str) : suOf (done1 st k).1 j = suOf st.1 j := by unfold done1; rw [decrs_su]; exact su_set ..
theorem MidK.dones {su : Str → List Str} : ∀ {l : List Str} {st : Gr × List Str} {L : List Str}, MidK np0 dom st L → (∀ k, suOf st.1 k = su k) → (∀ k ∈ l, k ∈ keysOf st.1 ∧ ¬ dom k ∧ ∀ s ∈ su k, s ∈ keysOf st.1 ∧ dom s) → (∀ s, (L ++ l.flatMap su).count s ≤ np0 s) → MidK np0 dom (l.foldl done1 st) (L ++ l.flatMap su)
  | [], st, L, h, _, _, _ => by rw [List.flatMap_nil, List.append_nil]; exact h
  | k :: l, st, L, h, hsu, hk, hc => by
    obtain ⟨k1, k2, k3⟩ := hk k (.head _)
    have h1 : MidK np0 dom (done1 st k) (L ++ su k) := by
      unfold done1
      rw [hsu k]
      refine (h.set (d := -2) k1 k2).decrs (fun s hs => ⟨by show s ∈ keysOf (gSet st.1 k (-2)); rw [gSet_keys]; exact (k3 s hs).1, (k3 s hs).2⟩) fun s => ?_
      have := hc s
      rw [List.flatMap_cons, ← List.append_assoc, List.count_append] at this
      omega
    have := h1.dones (su := su) (l := l) (fun j => by rw [done1_su]; exact hsu j) (fun j hj => by rw [done1_keys]; exact hk j (.tail _ hj)) (fun s => by rw [List.append_assoc, ← List.flatMap_cons]; exact hc s)
    rw [List.append_assoc, ← List.flatMap_cons] at this
    exact this
/-- the state between two rounds -/
structure Inv (P : Prs) (h : List Str) (g : Gr) (rdl : List Str) : Prop where
  nd : h.Nodup
  sub : ∀ k ∈ h, k ∈ keysOf g
  clos : ∀ p ∈ P, p.2 ∈ h → p.1 ∈ h
  su : ∀ k, suOf g k = sus P k
  ends : ∀ p ∈ P, p.1 ∈ keysOf g ∧ p.2 ∈ keysOf g
  np : ∀ k ∈ h, npOf g k = cnp P h k
  rnd : rdl.Nodup
  rmem : ∀ k, k ∈ rdl ↔ k ∈ h ∧ cnp P h k = 0
noncomputable def outs (g : Gr) (rdl : List Str) : Gr := rdl.foldl (fun g k => gSet g k (-1)) g
theorem outs_keys (g : Gr) (l : List Str) : keysOf (outs g l) = keysOf g := gSets_keys ..
theorem outs_su (g : Gr) (l : List Str) (j : Str) : suOf (outs g l) j = suOf g j := by
  unfold outs
  induction l generalizing g with
  | nil => rfl
  | cons k l ih => rw [List.foldl_cons, ih, su_set]
theorem outs_np {g : Gr} {l : List Str} (hl : ∀ k ∈ l, k ∈ keysOf g) (j : Str) : npOf (outs g l) j = if j ∈ l then -1 else npOf g j := by
  unfold outs
  induction l generalizing g with
  | nil => rfl
  | cons k l ih =>
    rw [List.foldl_cons, ih fun x hx => by rw [gSet_keys]; exact hl x (.tail _ hx), np_set (hl k (.head _))]
    by_cases h1 : j ∈ l
    · rw [if_pos h1, if_pos (.tail _ h1)]
    · by_cases h2 : j = k
      · rw [if_neg h1, if_pos h2, if_pos (by rw [h2]; exact .head _)]
      · rw [if_neg h1, if_neg h2, if_neg (fun q => by cases q with | head => exact h2 rfl | tail _ q => exact h1 q)]
section
variable {P : Prs} {h : List Str} {g : Gr} {rdl : List Str}
theorem Inv.rsub (I : Inv P h g rdl) : ∀ k ∈ rdl, k ∈ keysOf g := fun k hk => I.sub k ((I.rmem k).mp hk).1
theorem Inv.closed (I : Inv P h g rdl) (k : Str) : ∀ s ∈ suOf g k, s ∈ keysOf g := fun s hs => by
  rw [I.su, mem_sus] at hs
  exact (I.ends _ hs).1
/-- no successor of one that is ready is ready -/
theorem Inv.sep (I : Inv P h g rdl) : ∀ k ∈ rdl, ∀ j ∈ rdl, j ∉ suOf g k := fun k hk j hj q => by
  rw [I.su, mem_sus] at q
  exact cnp_pos.mpr ⟨(j, k), q, rfl, ((I.rmem k).mp hk).1⟩ ((I.rmem j).mp hj).2
theorem Inv.step (I : Inv P h g rdl) : Inv P (farther P h) (rdl.foldl done1 (outs g rdl, [])).1 (rdl.foldl done1 (outs g rdl, [])).2 := by
  have hk : ∀ st : Gr × List Str, keysOf st.1 = keysOf g → keysOf (rdl.foldl done1 st).1 = keysOf g := fun st e => (dones_keys ..).trans e
  have hkeys := hk (outs g rdl, []) (outs_keys ..)
  have hspl : ∀ s, cnp P h s = cnp P rdl s + cnp P (farther P h) s := fun s => cnp_split (fun x => by
    rw [I.rmem, far_mem]
    by_cases z : cnp P h x = 0
    · simp [z]
    · simp [z]) fun x hx q => (far_mem.mp q).2 ((I.rmem x).mp hx).2
  have hL : ∀ s, (rdl.flatMap (sus P)).count s = cnp P rdl s := fun s => count_flat P s I.rnd
  have M : MidK (cnp P h) (fun s => s ∈ h ∧ s ∉ rdl) (rdl.foldl done1 (outs g rdl, [])) ([] ++ rdl.flatMap (sus P)) := by
    refine MidK.dones (su := sus P) (l := rdl) ⟨fun s hs => ?_, List.nodup_nil, fun s => by simp⟩ (fun k => (outs_su ..).trans (I.su k)) (fun k hk' => ⟨by show k ∈ keysOf (outs g rdl); rw [outs_keys]; exact I.rsub k hk', fun q => q.2 hk', fun s hs => ⟨by show s ∈ keysOf (outs g rdl); rw [outs_keys]; exact (I.ends _ (mem_sus.mp hs)).1, I.clos _ (mem_sus.mp hs) ((I.rmem k).mp hk').1, fun q => I.sep k hk' s q (by rw [I.su]; exact hs)⟩⟩) (fun s => by rw [List.nil_append, hL, hspl s]; omega)
    show npOf (outs g rdl) s = _
    rw [outs_np I.rsub, if_neg hs.2, I.np s hs.1]
    simp
  rw [List.nil_append] at M
  have hfar : ∀ s, s ∈ farther P h → s ∈ h ∧ s ∉ rdl := fun s hs => ⟨(far_mem.mp hs).1, fun q => (far_mem.mp hs).2 ((I.rmem s).mp q).2⟩
  refine ⟨I.nd.filter _, fun k hk => by rw [hkeys]; exact I.sub k (hfar k hk).1, fun p hp q => ?_, fun k => ?_, fun p hp => by rw [hkeys]; exact I.ends p hp, fun k hk => ?_, M.nd, fun k => ?_⟩
  · exact far_mem.mpr ⟨I.clos p hp (hfar _ q).1, cnp_pos.mpr ⟨p, hp, rfl, (hfar _ q).1⟩⟩
  · rw [dones_su]; exact (outs_su ..).trans (I.su k)
  · rw [M.np k (hfar k hk), hL, hspl k]; omega
  · rw [M.mem k, hL]
    constructor
    · rintro ⟨h1, h2⟩
      obtain ⟨y, hy, hs⟩ := List.mem_flatMap.mp h1
      have hp := mem_sus.mp hs
      have hyh := ((I.rmem y).mp hy).1
      refine ⟨far_mem.mpr ⟨I.clos _ hp hyh, cnp_pos.mpr ⟨_, hp, rfl, hyh⟩⟩, ?_⟩
      have := hspl k
      omega
    · rintro ⟨h1, h2⟩
      have h3 := (far_mem.mp h1).2
      have := hspl k
      refine ⟨?_, by omega⟩
      have : (rdl.flatMap (sus P)).count k ≠ 0 := by rw [hL]; omega
      exact List.count_pos_iff.mp (Nat.pos_of_ne_zero this)
theorem Inv.stop (I : Inv P h g rdl) : rdl = [] ↔ farther P h = h := by
  constructor
  · intro e
    refine List.filter_eq_self.mpr fun k hk => kept_ne.mpr fun q => ?_
    have := (I.rmem k).mpr ⟨hk, q⟩
    rw [e] at this; cases this
  · intro e
    cases rdl with
    | nil => rfl
    | cons k r =>
      obtain ⟨h1, h2⟩ := (I.rmem k).mp (.head _)
      rw [← e] at h1
      exact absurd h2 (far_mem.mp h1).2
theorem perm_of_mem : ∀ {l r : List Str}, l.Nodup → r.Nodup → (∀ k, k ∈ l ↔ k ∈ r) → l.Perm r
  | [], r, _, _, h => by
    cases r with
    | nil => exact .refl _
    | cons k r => exact absurd ((h k).mpr (.head _)) (by simp)
  | k :: l, r, nl, nr, h => by
    obtain ⟨h1, h2⟩ := List.nodup_cons.mp nl
    have hk : k ∈ r := (h k).mp (.head _)
    refine (List.Perm.cons k (perm_of_mem h2 (nr.erase k) fun j => ?_)).trans (List.perm_cons_erase hk).symm
    rw [nr.mem_erase_iff, ← h j, List.mem_cons]
    exact ⟨fun q => ⟨fun e => h1 (e ▸ q), .inr q⟩, fun ⟨a, b⟩ => b.resolve_left a⟩
theorem Inv.gone (I : Inv P h g rdl) : rdl.Perm (gone P h) := perm_of_mem I.rnd (I.nd.filter _) fun k => by rw [I.rmem, gone_mem]
end
theorem Topo.succ {su : Str → List Str} : ∀ {l : List Str}, Topo su l → ∀ {y b : Str}, y ∈ l → b ∈ su y → b ∈ l
  | a :: r, t, y, b, hy, hb => by
    cases hy with
    | head => exact .tail _ (t.1 b hb)
    | tail _ hy => exact .tail _ (Topo.succ t.2 hy hb)
/-- no ring: nothing is left at the end -/
theorem noRing {su : Str → List Str} {h : List Str} (hh : ∀ k ∈ h, ∃ y ∈ h, k ∈ su y) : ∀ {fin : List Str}, Topo su fin → fin.Nodup → (∀ k ∈ h, k ∈ fin) → h = []
  | [], _, _, hc => List.eq_nil_iff_forall_not_mem.mpr fun k hk => by cases hc k hk
  | a :: r, t, nd, hc => by
    have ha : a ∉ h := fun q => by
      obtain ⟨y, hy, hs⟩ := hh a q
      have : a ∈ r := by
        cases hc y hy with
        | head => exact t.1 a hs
        | tail _ hy => exact Topo.succ t.2 hy hs
      exact (List.nodup_cons.mp nd).1 this
    exact noRing hh t.2 (List.nodup_cons.mp nd).2 fun k hk => by
      cases hc k hk with
      | head => exact absurd hk ha
      | tail _ q => exact q
theorem fix_has {P : Prs} {h : List Str} (e : farther P h = h) : ∀ k ∈ h, ∃ y ∈ h, k ∈ sus P y := fun k hk => by
  rw [← e] at hk
  obtain ⟨p, hp, rfl, h2⟩ := cnp_pos.mp (far_mem.mp hk).2
  exact ⟨p.2, h2, mem_sus.mpr hp⟩
theorem Way.last {su : Str → List Str} {a b : Str} (h : Way su a b) : ∃ y, b ∈ su y ∧ (y = a ∨ Way su a y) := by
  induction h with
  | one h => exact ⟨_, h, .inl rfl⟩
  | more h w ih =>
    obtain ⟨y, h1, h2⟩ := ih
    refine ⟨y, h1, .inr ?_⟩
    rcases h2 with rfl | h2
    · exact .one h
    · exact .more h h2
theorem ring_stays {P : Prs} {h : List Str} (hh : ∀ k, Way (sus P) k k → k ∈ h) : ∀ k, Way (sus P) k k → k ∈ farther P h := fun k hk => by
  obtain ⟨y, h1, h2⟩ := hk.last
  have hy : Way (sus P) y y := by
    rcases h2 with rfl | h2
    · exact .one h1
    · exact .more h1 h2
  exact far_mem.mpr ⟨hh k hk, cnp_pos.mpr ⟨(k, y), mem_sus.mp h1, rfl, hh y hy⟩⟩
/-- what is left after i rounds -/
noncomputable def left (P : Prs) (h : List Str) : Nat → List Str
  | 0 => h
  | i + 1 => farther P (left P h i)
theorem left_len {P : Prs} {h : List Str} : ∀ {n : Nat}, (∀ i < n, farther P (left P h i) ≠ left P h i) → (left P h n).length + n ≤ h.length
  | 0, _ => Nat.le_refl _
  | n + 1, hn => by
    have ih := left_len (n := n) fun i hi => hn i (Nat.lt_succ_of_lt hi)
    have h1 := hn n (Nat.lt_succ_self n)
    have h2 : (farther P (left P h n)).length < (left P h n).length := by
      refine Nat.lt_of_le_of_ne (List.length_filter_le ..) fun q => h1 ?_
      exact (List.filter_sublist ..).eq_of_length q
    show (farther P (left P h n)).length + (n + 1) ≤ _
    omega
end
end
section
open PySem PySem.W PyProof.Rows PySem.Calls
section
/-- a callee's exception, seen by its caller -/
theorem Thrown.up {fm : Fm} {vs : Vals} {cs₀ cs₁ rest : List HP} {s s' : Shared} {C : Value} {e T : Addr} (S : Sit fm vs (cs₀ ++ rest) s) (th : Thrown C e T (feet cs₀) cs₁ s s') : Thrown C e T fm.F (cs₁ ++ rest) fm.b s' := by
  have ap := List.pairwise_append.mp S.apart
  have old : ∀ c ∈ rest, ∀ a ∈ c.foot, a ≠ e ∧ a ≠ T := fun c hc a ha => by
    obtain ⟨o, ho⟩ := c.lt (S.own c (List.mem_append_right _ hc)).1 a ha
    refine th.offO a o ho fun q => ?_
    obtain ⟨d, hd, hx⟩ := mem_feet.mp q
    exact ap.2.2 d hd c hc a hx ha
  refine ⟨th.tr, fun c hc => ?_, fun a o ho haF => ?_⟩
  · rcases List.mem_append.mp hc with hc | hc
    · exact th.offC c hc
    · exact ⟨fun q => (old c hc _ q).1 rfl, fun q => (old c hc _ q).2 rfl⟩
  · have hn : a ∉ feet cs₀ := fun q => by
      obtain ⟨c, hc, hx⟩ := mem_feet.mp q
      rcases (S.own c (List.mem_append_left _ hc)).2.1 a hx with z | z
      · exact haF z
      · exact absurd (Heap.lt_size ho) (Nat.not_lt.mpr z)
    by_cases hfr : a ∈ fm.fr
    · obtain ⟨o', es, ep, sl, h1, h2, h3⟩ := S.frs a hfr (Nat.ne_of_lt (Nat.lt_of_lt_of_le (Heap.lt_size ho) S.fok.base))
      exact th.offO a _ h3 hn
    · exact th.offO a o (S.ext a o ho haF hfr) hn
/-- an exception came out of a call, and then R -/
noncomputable def CameX (fm : Fm) (C : Value) (R : Vals → List HP → Prop) (e : Value) (s' : Shared) : Prop :=
  ∃ a T vs' cs', e = .ref a ∧ Sit fm vs' cs' s' ∧ Thrown C a T fm.F cs' fm.b s' ∧ R vs' cs'
/-- as Sit.passed -/
theorem Sit.passed2 {fm : Fm} {vs : Vals} {cs : List HP} {s : Shared} (S : Sit fm vs cs s) (hL : fm.env.locals ∈ fm.fr) {h'' : Heap} {t : Nat} (k1 : ∀ a o, a ∉ fm.fr → s.heap.get? a = some o → (a ∈ feet cs ∨ ∃ o', fm.b.heap.get? a = some o' ∧ a ∉ fm.F) → h''.get? a = some o) (k2 : ∀ a o, a ∈ fm.fr → s.heap.get? a = some o → ∃ sl, h''.get? a = some { o with slots := sl }) :
    Sit fm vs cs { s with heap := h'', toks := t } := by
  obtain ⟨m, ⟨o, es, ep, ho, r⟩, ag⟩ := S.loc
  refine ⟨S.fok, S.gens, S.os, fun a o e q q' => k1 a o q' (S.ext a o e q q') (.inr ⟨o, e, q⟩), fun a ha hn => ?_, ⟨m, ?_, ag⟩, fun c hc => ?_, S.apart⟩
  · obtain ⟨o, es, ep, sl, h1, h2, h3⟩ := S.frs a ha hn
    obtain ⟨sl', h4⟩ := k2 a _ ha h3
    exact ⟨o, es, ep, sl', h1, h2, h4⟩
  · obtain ⟨sl, h4⟩ := k2 _ _ hL ho
    exact ⟨_, es, ep, h4, r⟩
  · obtain ⟨p1, p2, p3⟩ := S.own c hc
    refine ⟨c.loc (fun a ha => ?_) p1, p2, p3⟩
    obtain ⟨o, ho⟩ := c.lt p1 a ha
    rw [ho]
    exact k1 a o (S.frOff hc ha).1 ho (.inl (mem_feet.mpr ⟨c, hc, ha⟩))
/-- an exception that came out of a call is noted where a try stands -/
theorem note_came {w : World} {A : Around} {fm : Fm} {vs : Vals} {cs : List HP} {s : Shared} {e T₀ : Addr} {C : Value} {outer : List Env} {E : Value → Shared → Prop} {Q : Unit → Shared → Prop} (S : Sit fm vs cs s) (hf : fm.env.frame = some fm.env.locals) (hA : A.frames = some (fm.env :: outer)) (hk : ∀ e ∈ fm.env :: outer, e.scope.kind ≠ .module ∧ ∃ L, e.frame = some L) (hfr : fm.fr = frOf A) (X : Thrown C e T₀ fm.F cs fm.b s)
    (h : ∀ h'' T, Sit fm vs cs { s with heap := h'' } → Thrown C e T fm.F cs fm.b { s with heap := h'' } → Q () { s with heap := h'' }) : wpAny (MD w) A (noteFrame (.ref e) fm.env) (fun _ s₂ => wpAny (MD w) A (setFlight (.ref e) none) Q E s₂) E s := by
  have hfr' : fm.fr = (fm.env :: outer).filterMap (·.frame) := by rw [hfr]; unfold frOf; rw [hA]; rfl
  have hL : fm.env.locals ∈ fm.fr := by rw [hfr', List.filterMap_cons, hf]; exact .head _
  obtain ⟨base, b1, b2, b3⟩ := without (fm.fr ++ [e, T₀]) s.heap
  obtain ⟨oe, vs', oT, ts, he, hc, hd, h1, hTe, hT, hdT, h3⟩ := X.tr
  have hst : base.StaysIn s.heap := fun a o q => by
    by_cases ha : a ∈ fm.fr ++ [e, T₀]
    · rw [b1 a ha] at q; cases q
    · exact (b2 a ha) ▸ q
  have hen : base.get? e = none := b1 e (List.mem_append_right _ (.head _))
  have hTn : base.get? T₀ = none := b1 T₀ (List.mem_append_right _ (.tail _ (.head _)))
  have frE : ∀ a ∈ fm.fr, a ≠ e ∧ a ≠ T₀ := fun a ha => by
    obtain ⟨_, o', es, ep, ho', hd'⟩ := S.frH a ha
    refine ⟨fun q => ?_, fun q => ?_⟩
    · subst q; rw [he] at ho'; cases ho'; rw [hd] at hd'; cases hd'
    · subst q; rw [hT] at ho'; cases ho'; rw [hdT] at hd'; cases hd'
  have frs : ∀ a ∈ fm.fr, ∃ o es ep, s.heap.get? a = some o ∧ o.data = .dict es ep := fun a ha => (S.frH a ha).2
  have hst' : base.StaysIn (s.heap.update T₀ (Obj.mapFields (·.setIfInBounds 3 .none))) := fun a o q => by
    have ha : a ≠ T₀ := fun z => by subst z; rw [hTn] at q; cases q
    exact (Heap.get?_update_other _ _ (Ne.symm ha)).trans (hst a o q)
  have hl : (s.heap.update T₀ (Obj.mapFields (·.setIfInBounds 3 .none))).FunFrames base (fm.env :: outer) := funFrames (K := fm.K) hk (fun a ha => b1 a (List.mem_append_left _ (hfr' ▸ ha))) fun a ha => by
    obtain ⟨o, es, ep, ho, hd⟩ := frs a (hfr' ▸ ha)
    exact ⟨o, es, ep, (Heap.get?_update_other _ _ (Ne.symm (frE a (hfr' ▸ ha)).2)).trans ho, hd⟩
  have he' : (s.heap.update T₀ (Obj.mapFields (·.setIfInBounds 3 .none))).get? e = some oe := (Heap.get?_update_other _ _ hTe).trans he
  unfold noteFrame
  simp only [hf]
  refine wpAny_bind (wpAny_field he hd h1 ?_)
  rw [if_pos (show (Value.ref T₀ != Value.none) = true from by simp)]
  refine wpAny_bind (wpAny_field hT hdT h3 ?_)
  rw [if_neg (show ¬ ((Value.none == rawInt fm.env.locals) = true) from by simp [rawInt])]
  refine wpAny_bind (wpAny_setField hT hdT (Array.getElem?_eq_some_iff.mp h3).1 ?_)
  refine wpAny_newEntry (s := { s with heap := s.heap.update T₀ (Obj.mapFields (·.setIfInBounds 3 .none)) }) hA hl hf he' hst' hen hd (Array.getElem?_eq_some_iff.mp h1).1 fun h'' ⟨k1, k2, k3, k4⟩ => ?_
  have kfr : ∀ a o, a ∈ fm.fr → s.heap.get? a = some o → ∃ sl, h''.get? a = some { o with slots := sl } := fun a o ha ho => by
    obtain ⟨o', es, ep, ho', hd'⟩ := frs a ha
    rw [ho] at ho'; cases ho'
    exact k4 a o ((Heap.get?_update_other _ _ (Ne.symm (frE a ha).2)).trans ho) fun vs q => by rw [hd'] at q; cases q
  have kk : ∀ a o, a ∉ fm.fr → a ≠ e → a ≠ T₀ → s.heap.get? a = some o → h''.get? a = some o := fun a o ha ha1 ha2 ho => k1 a o ((b2 a (fun q => by
    rcases List.mem_append.mp q with q | q
    · exact ha q
    · rcases List.mem_cons.mp q with q | q
      · exact ha1 q
      · exact ha2 (List.mem_singleton.mp q))).trans ho)
  obtain ⟨oe', vs'', T, oT', ts', g1, g2, g3, g4, g5, g6, g7, g8, g9⟩ := k3
  have S' : Sit fm vs cs { s with heap := h'' } := S.passed2 (t := s.toks) hL (fun a o ha ho z => by
    have hne : a ≠ e ∧ a ≠ T₀ := by
      rcases z with z | ⟨o', z, haF⟩
      · obtain ⟨c, hc, hx⟩ := mem_feet.mp z
        exact ⟨fun q => (X.offC c hc).1 (q ▸ hx), fun q => (X.offC c hc).2 (q ▸ hx)⟩
      · exact X.offO a o' z haF
    exact kk a o ha hne.1 hne.2 ho) kfr
  have bAt : ∀ a o, a ∉ fm.fr → a ≠ e → a ≠ T₀ → s.heap.get? a = some o → base.get? a = some o := fun a o ha ha1 ha2 ho => (b2 a (fun q => by
    rcases List.mem_append.mp q with q | q
    · exact ha q
    · rcases List.mem_cons.mp q with q | q
      · exact ha1 q
      · exact ha2 (List.mem_singleton.mp q))).trans ho
  refine h h'' T S' ⟨⟨oe', vs'', oT', ts', g1, g2.trans hc, g3, g4, g6, g7, g8, g9⟩, fun c hc => ⟨(X.offC c hc).1, fun q => ?_⟩, fun a o ho haF => ⟨(X.offO a o ho haF).1, fun q => ?_⟩⟩
  · obtain ⟨o, ho⟩ := c.lt (S.own c hc).1 T q
    have := bAt T o (S.frOff hc q).1 (fun z => (X.offC c hc).1 (z ▸ q)) (fun z => (X.offC c hc).2 (z ▸ q)) ho
    rw [g5] at this; cases this
  · subst q
    by_cases ha : a ∈ fm.fr
    · obtain ⟨o', es, ep, sl, f1, f2, f3⟩ := S'.frs a ha (Nat.ne_of_lt (Nat.lt_of_lt_of_le (Heap.lt_size ho) S.fok.base))
      have f3 : h''.get? a = some { o' with slots := sl } := f3
      rw [g7] at f3; cases f3
      rw [f2] at g8; cases g8
    · have := bAt a o ha (X.offO a o ho haF).1 (X.offO a o ho haF).2 (S.ext a o ho haF ha)
      rw [g5] at this; cases this
/-- an own class of exceptions, as the top has it -/
structure ExOk (K : Frag) (C : Addr) : Prop where
  obj : ∃ nm q N bs bm hdct sn sub ab col dd k0 k1 k2 k3 k5, K.lookup C = some (excClassObj nm q C N bs bm hdct sn sub ab col dd k0 k1 k2 k3 k5 "ValueError.__new__") ∧ bm.contains (.type "BaseException") = true
/-- try over a call that may raise an own exception -/
theorem G_TryOwn {w : World} {A : Around} {fm : Fm} {vs : Vals} {cs : List HP} {body suite : List Stmt} {b₀ : Stmt} {x : Str} {C : Addr} {p p' pos : Pos} {Q : Flow → Vals → List HP → Prop} (R : Vals → List HP → Prop) (ok : ExOk fm.K C)
    (hA : FrT A fm.env) (hf : fm.env.frame = some fm.env.locals) (hfr : fm.fr = frOf A) (g : In2 fm.gs x (.ref C))
    (h : GX w A fm (execs body fm.env) Q (CameX fm (.ref C) R) vs cs)
    (hs : ∀ e vs cs, R vs cs → G w (A.mark (some e)) fm (execs (b₀ :: suite) fm.env) Q NoE vs cs) :
    G w A fm (exec (.Try body [.ExceptHandler (some (.Name x p)) none (b₀ :: suite) p'] [] [] pos) fm.env) Q NoE vs cs := fun s S => by
  refine wpAny_Try_except (wpAny_mono (h s S) (fun f s₁ x => ?_) fun e s₁ x => ?_)
  · obtain ⟨v, c, S', q⟩ := x
    cases f <;> first | exact ⟨v, c, S', q⟩ | exact wpAny_execs_nil ⟨v, c, S', q⟩
  · obtain ⟨a, T₀, v, c, rfl, S', X, r⟩ := x
    obtain ⟨outer, hA, hk⟩ := hA
    refine note_came S' hf hA hk hfr X fun h'' T S'' th => ?_
    obtain ⟨oe, ves, oT, ts, g1, g2, g3, g4, g5, g6, g7, g8⟩ := th.tr
    obtain ⟨nm, q, N, bs, bm, hdct, sn, sub, ab, col, dd, k0, k1, k2, k3, k5, hC, hbase⟩ := ok.obj
    have hC := S''.top.kin _ _ hC
    refine wpAny_handleBy_cons (codeAny_handlers_test (raw_Glob S'' g ?_)) (by intro q; cases q)
    refine wpAny_excMatches_sub_self hC g1 g2 hbase (codeAny_handlers_suite ?_)
    have h3 : 3 < ts.size := (Array.getElem?_eq_some_iff.mp g8).1
    refine wpAny_setFlight_none g1 g3 g4 g6 g7 h3 ?_
    have S3 := S''.touch (h'' := h''.update T (Obj.mapFields (·.setIfInBounds 3 .none))) (fun b hb => Heap.get?_update_other _ _ (Ne.symm hb)) (fun c' hc => (th.offC c' hc).2) (fun a' o' q q' => (th.offO a' o' q q').2) g6 g7
    refine wpAny_mono (hs _ v c r _ S3) (fun f s₂ z => ?_) fun _ _ ⟨_, _, _, z⟩ => z.elim
    exact z
section
variable {w : World} {A : Around} {fm : Fm} {vs : Vals} {cs : List HP} {Er : Value → Shared → Prop}
/-- a call by a contract that may raise -/
theorem GX_specX {k : Nat} {f : Value} {args : List Value} {B : Heap → Prop} {cs₀ rest : List HP} {Post : Value → List HP → Prop} {C : Value} {PE : List HP → Prop} {R : Vals → List HP → Prop} {Q : Value → Vals → List HP → Prop} (hs : SpecX fm.gp w fm.K k f ⟨args, []⟩ B cs₀ Post C PE) (hA : Rm A k) (hFA : FrA A)
    (hB : ∀ s, Sit fm vs (cs₀ ++ rest) s → B s.heap) (h : ∀ v cs₁, Post v cs₁ → Q v vs (cs₁ ++ rest)) (hX : ∀ cs₁, PE cs₁ → R vs (cs₁ ++ rest)) (hf : fm.fr = frOf A := by rfl) : GX w A fm (call f args) Q (CameX fm C R) vs (cs₀ ++ rest) := fun s S => by
  refine wpAny_call (codeAny_mono (hs A s hA hFA S.top (hf ▸ S.frH) S.gens (hB s S) (hf ▸ S.owned)) fun r s' z => ?_)
  rcases z with ⟨v, cs₁, e, T, p⟩ | ⟨e, T, cs₁, er, St, pe, th⟩
  · subst e; exact ⟨vs, cs₁ ++ rest, S.call (hf ▸ T), h v cs₁ p⟩
  · subst er; exact ⟨e, T, vs, cs₁ ++ rest, rfl, S.call (hf ▸ St), th.up S, hX cs₁ pe⟩
/-- a call by a contract that could raise, but does not -/
theorem G_specX {k : Nat} {f : Value} {args : List Value} {B : Heap → Prop} {cs₀ rest : List HP} {Post : Value → List HP → Prop} {C : Value} {E : Value → Vals → List HP → Prop} {Q : Value → Vals → List HP → Prop} (hs : SpecX fm.gp w fm.K k f ⟨args, []⟩ B cs₀ Post C fun _ => False) (hA : Rm A k) (hFA : FrA A)
    (hB : ∀ s, Sit fm vs (cs₀ ++ rest) s → B s.heap) (h : ∀ v cs₁, Post v cs₁ → Q v vs (cs₁ ++ rest)) (hf : fm.fr = frOf A := by rfl) : G w A fm (call f args) Q E vs (cs₀ ++ rest) := fun s S => by
  refine wpAny_call (codeAny_mono (hs A s hA hFA S.top (hf ▸ S.frH) S.gens (hB s S) (hf ▸ S.owned)) fun r s' z => ?_)
  rcases z with ⟨v, cs₁, e, T, p⟩ | ⟨e, T, cs₁, er, St, pe, th⟩
  · subst e; exact ⟨vs, cs₁ ++ rest, S.call (hf ▸ T), h v cs₁ p⟩
  · exact pe.elim
theorem GX_ExprA {e : Expr} {p : Pos} {Q : Flow → Vals → List HP → Prop} (h : GX w A fm (eval e fm.env) (fun v vs cs => Q .next vs cs) Er vs cs)
    (hs : notComp e = true) : GX w A fm (exec (.Expr e p) fm.env) Q Er vs cs := fun s S =>
  wpAny_Expr_any (h s S) (by unfold interactive; rw [S.fok.fk]; rfl) (swap_of hs)
/-- a method of an own object, no arguments, may raise -/
theorem GX_methI0 {C f : Addr} {ks : List Str} {o : Expr} {name : Str} {apos p : Pos} {pl : Sem Bool} {Q : Value → Vals → List HP → Prop} (ok : ClsOk fm.K C ks) (hf : findIn fm.K (.ref C) name = some (some (.ref f))) (ht : isFn fm.K (.ref f) = true) (hn : name ∉ ks) (hk : keepIn fm.K (.ref f) = true)
    (h : G w A fm (eval o fm.env) (fun ov vs cs => E3 fun x dx as => A3 (ov = .ref x) (∀ s, Sit fm vs cs s → (INS C ks x dx as).ok s.heap) (GX w A fm (call (.ref f) [.ref x]) Q Er vs cs)) NoE vs cs)
    (he : eval (.Call (.Attribute o name apos) [] [] p) fm.env = (do
      let ov ← eval o fm.env
      standAt apos.atName
      let (f, first) ← holding [ov] (getMethod ov name pl)
      callWith p f first (backTo p (starEach [] fm.env)) [])) : GX w A fm (eval (.Call (.Attribute o name apos) [] [] p) fm.env) Q Er vs cs := fun s S =>
  MethodCall_ (wpAny_mono (h s S) (fun ov s₁ ⟨vs₁, cs₁, S', x, dx, as, e, hi, q⟩ => by
    subst e
    exact wpAny_mono (G_getMeth (A := A) (E := NoE) (pl := pl) (Q := fun fx vs cs => fx = (.ref f, [.ref x]) ∧ vs = vs₁ ∧ cs = cs₁) ok hi hf ht hn ⟨rfl, rfl, rfl⟩ s₁ S') (fun fx s₂ ⟨_, _, S2, e1, e2, e3⟩ => by
      subst e1 e2 e3
      exact callWith_of rfl (keeps_top hk) (evalArgs_nil3 ⟨S2.top.kin, q s₂ S2⟩)) fun _ _ ⟨_, _, _, z⟩ => z.elim) fun _ _ ⟨_, _, _, z⟩ => z.elim) he
end
end
end
section
open PySem PySem.W PyProof.Rows PySem.Calls
section
noncomputable abbrev ns_prepare : List Str := ["self", "cycle"]
noncomputable abbrev gs_prepare : List (Str × Value) := [("CycleError", .ref 85)]
theorem ok_prepare (w : World) : FnOk (KT w) 122 fd_prepare ns_prepare gs_prepare := fnOk_of (at_prepare w) (by kernel_rfl!)
noncomputable def readyOf (g : Gr) : List Str := (g.filter fun n => n.2.1 == 0).map (·.1)
noncomputable def rdN (nds : List Nd) : List Str := (nds.filter fun n => n.np == 0).map (·.key)
theorem rdN_are {nds : List Nd} {g : Gr} (h : NdsAre nds g) : rdN nds = readyOf g := by
  unfold rdN readyOf
  induction h with
  | nil => rfl
  | @cons n su r g hs hr ih =>
    rw [List.filter_cons, List.filter_cons]
    cases n.np == 0
    · exact ih
    · show _ :: _ = _ :: _; rw [ih]
theorem rdN_snoc (l : List Nd) (n : Nd) : rdN (l ++ [n]) = rdN l ++ (if (n.np == 0) = true then [n.key] else []) := by
  unfold rdN
  rw [List.filter_append, List.map_append]
  congr 1
  rw [List.filter_cons]
  cases n.np == 0 <;> rfl
noncomputable abbrev cls85 : Obj := excClassObj "CycleError" "CycleError" 85 84 [.type "ValueError"] [.type "ValueError", .type "Exception", .type "BaseException", .type "object"] true [] [] false none none (some (.ref 76)) none (some (.str "CycleError" 388)) (some (.str "CycleError" 396)) (some (.bool true)) "ValueError.__new__"
section
variable {w : World} {A : Around} {fm : Fm} {vs : Vals} {cs : List HP}
theorem GX_er {α : Type} {t : Sem α} {Q : α → Vals → List HP → Prop} {Er Er' : Value → Shared → Prop} (he : ∀ e s, Er e s → Er' e s) (h : GX w A fm t Q Er vs cs) : GX w A fm t Q Er' vs cs := fun s S => wpAny_mono (h s S) (fun _ _ x => x) fun _ _ x => he _ _ x
theorem ns_same {K : Frag} {h h2 : Heap} {N : Addr} (X : K.In h) (X2 : K.In h2) (hN : nsOkIn K N = true) : h2.Ns N (h.nsMap N) := by
  obtain ⟨o, es, ep, ho, r⟩ := Heap.Ns.of_isNs (isNs_of_in X hN)
  refine ⟨o, es, ep, ?_, r⟩
  unfold nsOkIn at hN
  split at hN
  · rename_i o' q
    have h1 := X _ _ q
    rw [ho] at h1
    rw [X2 _ _ q, h1]
  · cases hN
theorem G_JStr1 {v : Expr} {p : Pos} {E : Value → Vals → List HP → Prop} {Q : Value → Vals → List HP → Prop} (h : G w A fm (eval v fm.env) Q E vs cs) : G w A fm (eval (.JoinedStr [v] p) fm.env) Q E vs cs := fun s S => PyProof.Rows.JoinedStr_one (h s S)
/-- an own exception is made and raised -/
theorem GX_raiseOwn {x : Str} {C N : Addr} {np cpos pos : Pos} {e : Expr} {rest : List Expr} {nm q : Str} {bs bm : List Value} {hdct : Bool} {sn : List Str} {sub : List Value} {ab : Bool} {col : Option Bool} {dd : Option Addr} {k0 k1 k2 k3 k5 : Option Value} {B newId initId : String} {Q : Flow → Vals → List HP → Prop} {R : Vals → List HP → Prop}
    (FB : ExcBaseFacts B newId initId bm) (hC : fm.K.lookup C = some (excClassObj nm q C N bs bm hdct sn sub ab col dd k0 k1 k2 k3 k5 newId)) (hN : nsOkIn fm.K N = true) (hi : nsIn fm.K N "__init__" = some none) (g : In2 fm.gs x (.ref C)) (hh : A.handled = none)
    (h : G w A fm (spliced (backTo cpos (starEach (e :: rest) fm.env))) (fun xs vs cs => xs.length ≤ sizeLine ∧ R vs cs) NoE vs cs) (he : (e :: rest).all notStar = true) :
    GX w A fm (exec (.Raise (some (.Call (.Name x np) (e :: rest) [] cpos)) none pos) fm.env) Q (NowX fm (.ref C) R) vs cs := fun s S => by
  have h' := h s S
  obtain ⟨he, hr⟩ := Bool.and_eq_true_iff.mp (List.all_cons ▸ he)
  have hplain := plain_of (p := cpos) (env := fm.env) hr
  refine wpAny_Raise_call_sub (C := C) (N := N) (nm := nm) (q := q) (bs := bs) (hdct := hdct) (sn := sn) (sub := sub) (ab := ab) (col := col) (dd := dd) (k0 := k0) (k1 := k1) (k2 := k2) (k3 := k3) (k5 := k5) (mN := s.heap.nsMap N) FB hh ?_ (nsMap_none_of_in S.top.kin hN hi) (raw_Glob S g ⟨rfl, ?_⟩)
  · rw [star_of he]
    show (false || (backTo cpos (starEach rest fm.env)).any (·.1)) = false
    rw [hplain]; rfl
  · rw [star_of he] at h' ⊢
    refine Calls.evalArgs_plain (wpAny_mono h' (fun xs s₂ y => ?_) fun _ _ ⟨_, _, _, z⟩ => z.elim)
    obtain ⟨vs₂, cs₂, S₂, hsz, r⟩ := y
    refine ⟨rfl, hsz, S₂.top.kin _ _ hC, ?_, fun h'' a hm => ?_⟩
    · exact ns_same S.top.kin S₂.top.kin hN
    · obtain ⟨t, ht, _⟩ := hm.there
      exact ⟨a, vs₂, cs₂, s₂, h'', rfl, rfl, S₂, ⟨hm.keeps, hm.new, _, _, ht, rfl, rfl, rfl⟩, r⟩
end
theorem at_85 (w : World) : (KT w).lookup 85 = some cls85 := by kernel_rfl!
theorem ok_85 (w : World) : ExOk (KT w) 85 := ⟨_, _, _, _, _, _, _, _, _, _, _, _, _, _, _, _, at_85 w, by kernel_rfl!⟩
theorem sp_prepare (gp : GP) (w : World) (x dx D : Addr) (po nf : Int) (g : Gr) (N : Nat) (hN : N ≤ 900) (hc : ∀ k ∈ keysOf g, ∀ s ∈ suOf g k, s ∈ keysOf g) (cs₀ : List HP) (h0 : SRT w x dx D .none po nf g N cs₀) :
    SpecX gp w (KT w) 2 (.ref 122) ⟨[.ref x], []⟩ (fun _ => True) cs₀ (fun v cs => v = .none ∧ (∃ fin, A3 (Topo (suOf g) fin) fin.Nodup (∀ k ∈ keysOf g, k ∈ fin)) ∧ ∃ ra, RUN w x dx D ra po nf g N (readyOf g) cs)
      (.ref 85) (fun cs => (∃ n, Way (suOf g) n n) ∧ ∃ ra, RUN w x dx D ra po nf g N (readyOf g) cs) := by
  obtain ⟨nds, tpo, tnf, hg, rfl⟩ := h0
  refine SpecX.of_body (ok_prepare w) (by decide +kernel) rfl (binds := [("self", .ref x)]) (fun s _ _ => BindsTo.of_eq (by kernel_rfl!)) (locs (by kernel_rfl!)) (vs₀ := [some (.ref x), none]) ⟨rfl, trivial⟩ ?_
  intro A b hA hFA T hB
  have hnl : nds.length ≤ 900 := by rw [hg.are.length]; exact Nat.le_trans hg.len hN
  generalize hF0 : feet _ = F0
  let J21 : Vals → List HP → Prop := fun vs cs => vs = [some (.ref x), none] ∧ cs = [TSO x dx D .none po tpo nf tnf, DCT w D (kvs nds), NDS nds]
  refine GX_mid J21 ?_ ?_
  · cell_end 5 0 0
    exact ⟨rfl, rfl, rfl⟩
  rintro vs cs ⟨rfl, rfl⟩
  let J22 : Vals → List HP → Prop := fun vs cs => E2 fun ra rvs => A3 (vs = [some (.ref x), none]) (Strs rvs (readyOf g)) (cs = [TSO x dx D (.ref ra) po tpo nf tnf, DCT w D (kvs nds), NDS nds, RAW ra rvs])
  refine GX_mid J22 ?_ ?_
  · refine G_p1 ?_
    refine G_dce fun ep => ?_
    refine G_AssignA ?_ (by rfl)
    refine G_ListComp (cl := []) ["i"] [] ?_ (scOk_of (by kernel_rfl!)) (by k_dflt rfl) (by k_dflt rfl) (by decide +kernel)
    refine G_m0 F.slot_dict_values F.type_dict_values F.plainAttrs_dict ?_ (by k_dflt rfl) (by k_dflt rfl)
    cell_end 5 0 0
    refine ⟨fun s S => ⟨(dceAt (ep := ep) (by cell_end 7 0 0) s S).2.typeIs, (dceAt (ep := ep) (by cell_end 7 0 0) s S).2.mapOf.noDict⟩, ?_⟩
    refine G_values (dceAt (ep := ep) (by cell_end 7 0 0)) fun V => ?_
    let Z23 : List Value → List HP → Prop := fun ys cs => Strs ys (rdN nds) ∧ cs = [VIEW V D, DCE w D (kvs nds) ep, TSO x dx D .none po tpo nf tnf, NDS nds]
    let J23 : Addr → Nat → List Value → Vals → List HP → Prop := fun C i ys vs cs => ∃ iv, A3 (vs = [iv]) (Strs ys (rdN (nds.take i))) (cs = [VIEW V D, DCE w D (kvs nds) ep, TSO x dx D .none po tpo nf tnf, NDS nds])
    refine ⟨Z23, _, _, _, J23, ⟨Src.values hA.handled V D (kvs nds) ep, by simp only [kvs, List.length_map]; exact szl (by omega), fun s S => ⟨(S.own _ (.head _)).1, (S.own _ (.tail _ (.head _))).1⟩, fun C => ⟨none, rfl, .nil, rfl⟩, ?_, ?_, ?_⟩, ?_⟩
    · rintro C b' i ys vs cs s - ⟨iv, rfl, _, rfl⟩ S
      exact ⟨(S.own _ (.head _)).1, (S.own _ (.tail _ (.head _))).1⟩
    · rintro C b' i v ys vs cs Y X hb hi ⟨k, hkv⟩ ⟨iv, rfl, hys, rfl⟩
      obtain ⟨n, hn, hnv⟩ : ∃ n, nds[i]? = some n ∧ v = .ref n.x := by
        have : (kvs nds)[i]? = (nds[i]?).map fun n => (n.key, Value.ref n.x) := by simp [kvs]
        rw [this] at hkv
        cases q : nds[i]? with
        | none => rw [q] at hkv; cases hkv
        | some n => rw [q] at hkv; cases hkv; exact ⟨n, rfl, rfl⟩
      subst hnv
      have hnm : n ∈ nds := List.mem_of_getElem? hn
      have htk : nds.take (i + 1) = nds.take i ++ [n] := by rw [List.take_add_one, hn]; rfl
      refine letG ?_
      intro fm2 Q2
      refine G_sub (cs' := [VIEW V D, DCE w D (kvs nds) ep, TSO x dx D .none po tpo nf tnf, NDS nds, Y, X]) (.refl _) ?_
      cell_end 5 0 0
      refine G_nd1 rfl (by cell_end 7 0 0) hnm ?_
      cell_end 5 0 0
      refine G_eqI ?_
      cell_end 5 0 0
      refine bif_s (fun h1 => ?_) (fun h1 => ?_)
      · cell_end 5 0 0
        refine G_nd0 rfl (by cell_end 7 0 0) hnm ?_
        refine ⟨[VIEW V D, DCE w D (kvs nds) ep, TSO x dx D .none po tpo nf tnf, NDS nds], .refl _, _, rfl, ?_, rfl⟩
        rw [htk, rdN_snoc, if_pos h1]
        exact hys.append (.cons .nil)
      · refine ⟨[VIEW V D, DCE w D (kvs nds) ep, TSO x dx D .none po tpo nf tnf, NDS nds], .refl _, _, rfl, ?_, rfl⟩
        rw [htk, rdN_snoc, if_neg (by rw [h1]; decide), List.append_nil]
        exact hys
    · rintro C ys vs cs ⟨iv, rfl, hys, rfl⟩
      rw [show (kvs nds).length = nds.length by simp [kvs], List.take_length] at hys
      exact ⟨hys, rfl⟩
    · rintro ra ys cs ⟨hys, rfl⟩
      refine G_perm (cs' := [DCE w D (kvs nds) ep, TSO x dx D .none po tpo nf tnf, NDS nds, RAW ra ys, VIEW V D]) (by cell_end 9 0 0) ?_
      refine G_undce ?_
      refine G_perm (cs' := [VIEW V D, TSO x dx D .none po tpo nf tnf, DCT w D (kvs nds), NDS nds, RAW ra ys]) (by cell_end 9 0 0) ?_
      refine G_drop ?_
      cell_end 5 0 0
      exact ⟨rfl, ra, ys, rfl, by rw [← rdN_are hg.are]; exact hys, rfl⟩
  rintro vs cs ⟨ra, rvs, rfl, hrs, rfl⟩
  have hrun : RUN w x dx D ra po nf g N (readyOf g) [TSO x dx D (.ref ra) po tpo nf tnf, DCT w D (kvs nds), NDS nds, RAW ra rvs] := ⟨nds, tpo, tnf, rvs, hg, hrs, rfl⟩
  let J24 : Vals → List HP → Prop := fun vs cs => ∃ v, vs = [some (.ref x), some v] ∧ CycOut g [TSO x dx D (.ref ra) po tpo nf tnf, DCT w D (kvs nds), NDS nds, RAW ra rvs] v cs
  refine GX_mid J24 ?_ ?_
  · cell_end 5 0 0
    refine G_methI (cok_TS w) (f := 157) (by kernel_rfl!) (by kernel_rfl!) (by decide +kernel) ?_ (by rfl)
    cell_end 5 0 0
    refine ⟨x, dx, _, rfl, insAt (by cell_end 7 0 0), ?_⟩
    refine G_crS0 (by kernel_rfl!) ?_
    refine G_specX (cs₀ := [_, _, _, _]) (rest := []) (sp_findCycle gp w x dx D ra po nf g N (readyOf g) hN hc _ hrun) hA hFA (fun _ _ => trivial) ?_
    rintro v cs hv
    cell_end 5 0 0
    exact ⟨rfl, v, rfl, by rw [List.append_nil]; exact hv⟩
  rintro vs cs ⟨v, rfl, hv⟩
  refine GX_If ?_
  rcases hv with ⟨rfl, rfl, hfin⟩ | ⟨d, xs, n, rfl, ⟨hxs, hxl⟩, hway, rfl⟩
  · cell_end 5 0 0
    refine G_truthyN ?_
    cell_end 1 0 0
    refine ⟨rfl, GX.ofG ?_⟩
    cell_end 5 0 0
    exact ⟨_, [], by rw [List.append_nil], rfl, hfin, ra, hrun⟩
  · cell_end 5 0 0
    refine G_truthyL (sitRaw (by cell_end 7 0 0)) ?_ ?_
    · omega
    · have : (!xs.isEmpty) = true := by cases xs <;> simp_all
      rw [this]
      cell_end 5 0 0
      refine GX_raise ?_
      refine GX_er (Er := NowX _ (.ref 85) fun vs cs => ∃ cs₁ junk : List HP, (cs₁ ++ junk).Perm cs ∧ (∃ n, Way (suOf g) n n) ∧ ∃ ra, RUN w x dx D ra po nf g N (readyOf g) cs₁) (fun _ _ h => h) ?_
      refine GX_raiseOwn PySem.F.excBase_ValueError (at_85 w) (by kernel_rfl!) (by kernel_rfl!) (by cell_end 4 0 0) hA.handled ?_ (by k_dflt rfl)
      cell_end 1 0 0
      refine G_JStr1 ?_
      cell_end 5 0 0
      exact ⟨szl (Nat.le_of_ble_eq_true rfl), [_, _, _, _], [RAW d xs], List.perm_append_comm (l₂ := [RAW d xs]), ⟨n, hway⟩, ra, hrun⟩
end
end
section
open PySem PySem.W PyProof.Rows PySem.Calls
section
section
variable {w : World} {A : Around} {fm : Fm} {vs : Vals} {cs : List HP} {E : Value → Vals → List HP → Prop} {Q : Value → Vals → List HP → Prop}
/-- a list or a tuple -/
noncomputable def SeqAtH (h : Heap) (a : Addr) (xs : List Value) : Prop := ∃ o T n, h.get? a = some o ∧ o.cls = .type T ∧ (T = "list" ∨ T = "tuple") ∧ o.data = .seq xs.toArray n
theorem seqRaw {a : Addr} {xs : List Value} (hm : RAW a xs ∈ cs) : ∀ s, Sit fm vs cs s → SeqAtH s.heap a xs := fun s S => by
  obtain ⟨o, ho, n, rfl⟩ := (S.own _ hm).1
  exact ⟨_, _, n, ho, rfl, .inl rfl, rfl⟩
theorem seqTup {a : Addr} {xs : List Value} (hm : TUP a xs ∈ cs) : ∀ s, Sit fm vs cs s → SeqAtH s.heap a xs := fun s S => by
  obtain ⟨o, ho, n, rfl⟩ := (S.own _ hm).1
  exact ⟨_, _, n, ho, rfl, .inr rfl, rfl⟩
theorem G_sorted {a : Addr} {xs : List Value} {ss : List Str} (hl : ∀ s, Sit fm vs cs s → SeqAtH s.heap a xs) (hS : Strs xs ss) (h64 : xs.length < 64)
    (h : ∀ b out ss', Strs out ss' → ss'.Perm ss → sortedS ss' = true → Q (.ref b) vs (RAW b out :: cs)) : G w A fm (call (.builtin "sorted") [.ref a]) Q E vs cs := fun s S => by
  obtain ⟨o, T, n, ho, hc, hT, hd⟩ := hl s S
  refine Calls.call_function_entry kind_sorted plain_sorted entry_sorted (args_sorted1 _) ?_
  unfold Builtin.«sorted»
  refine wpAny_bind (m := checkCount "sorted" 1 1 _) (wpAny_pure ?_)
  refine wpAny_bind (wpAny_collect_seq a hT ho hc hd (fun h' hk => ?_) (by rw [List.size_toArray]; exact szl (by omega)))
  show wpAny _ _ (newList xs.toArray.toList >>= _) _ _ _
  refine wpAny_bind (wpAny_newList ?_ (by simp; exact szl (by omega)))
  have hoL : (h'.push (seqObj "list" xs.toArray 0)).get? h'.objs.size = some (seqObj "list" xs.toArray 0) := Heap.get?_push_size _ rfl
  show wpAny _ _ _ _ _ { s with heap := h'.push (seqObj "list" xs.toArray 0) }
  refine wpAny_bind (wpAny_holding (wpAny_call_entry slot_list_sort ⟨_, hoL, rfl⟩ entry_list_sort (list_sort_treeK PyProof.Rows.strKind_oneLt hoL hS.are.keysOf (fun v₁ v₂ rest e => keyKind_strs (by rw [← e]; exact hS.are)) h64 fun st' hp hs => ⟨_, rfl, ?_⟩) (args_list_sort _)))
  obtain ⟨ss', h1, h2, h3⟩ := sorted_out_str hS.are hp hs
  obtain ⟨e, he⟩ := sortedHeap_at (vs := xs) (out := (arrOf st').map (·.2)) hoL
  refine wpAny_pure ⟨_, rfl, vs, _, S.growA (c := RAW h'.objs.size ((arrOf st').map (·.2)).toList) (t := s.toks) (fun b o q => ?_) ⟨_, he, e, rfl⟩ (fun b hb c o q => by cases List.mem_singleton.mp hb; exact Heap.lt_size (hk _ _ q)), h _ _ ss' (Strs.of_are h1) h2 h3⟩
  have hlt := Heap.lt_size (hk _ _ q)
  have hne : b ≠ h'.objs.size := Nat.ne_of_lt hlt
  rw [sortedHeap_old hne (by rw [Heap.size_push]; exact Nat.lt_succ_of_lt hlt)]
  exact Heap.get?_push_of_some _ (hk _ _ q)
/-- f( *e ) for a def of the top -/
theorem G_callStar {p pp : Pos} {f : Value} {first : List Value} {e : Expr} (hk : keepIn fm.K f = true)
    (h : G w A fm (eval e fm.env) (fun v vs cs => E2 fun a xs => A4 (v = .ref a) (xs.length ≤ sizeLine) (∀ s, Sit fm vs cs s → SeqAtH s.heap a xs) (G w A fm (call f (first ++ xs)) Q E vs cs)) E vs cs)
    (he : starEach [.Starred e pp] fm.env = [(true, eval e fm.env)]) : G w A fm (callWith p f first (backTo p (starEach [.Starred e pp] fm.env)) []) Q E vs cs := fun s S => by
  refine callWith_S S.top.kin hk (wpAny_mono (h s S) (fun v s₁ ⟨vs₁, cs₁, S₁, a, xs, ev, hsz, hl, g⟩ => ?_) fun _ _ x => x) he
  subst ev
  obtain ⟨o, T, n, ho, hc, hT, hd⟩ := hl s₁ S₁
  have z : wpAny (MD w) A (collect (.ref a)) (fun vs s₂ => fm.K.In s₂.heap ∧ wpAny (MD w) A (call f (first ++ vs)) (fun a => At fm (Q a)) (fun e => At fm (E e)) s₂) (fun e => At fm (E e)) s₁ :=
    wpAny_collect_seq a hT ho hc hd (fun h' hk => by
      have S₂ : Sit fm vs₁ cs₁ { s₁ with heap := h' } := S₁.grow (cn := []) (t := s₁.toks) hk (fun _ q => (nomatch q)) List.Pairwise.nil
      exact ⟨S₂.top.kin, g _ S₂⟩) (by rw [List.size_toArray]; exact hsz)
  have hT' : s₁.TypeIs (.ref a) T := ⟨o, ho, hc⟩
  unfold StarOf notIterableAtAll
  rcases hT with rfl | rfl
  · exact wpAny_bind (wpAny_specialOf hT' PySem.F.slot_list_iter.lookup (wpAny_pure ⟨rfl, z⟩))
  · exact wpAny_bind (wpAny_specialOf hT' PySem.F.slot_tuple_iter.lookup (wpAny_pure ⟨rfl, z⟩))
/-- a bound method -/
noncomputable def MTH (W f : Addr) (x : Addr) : HP := HP.one W fun o => o = methodObj (.ref f) (.ref x)
theorem mthAt {W f x : Addr} (hm : MTH W f x ∈ cs) : ∀ s, Sit fm vs cs s → s.heap.get? W = some (methodObj (.ref f) (.ref x)) := fun s S => by
  obtain ⟨o, ho, rfl⟩ := (S.own _ hm).1
  exact ho
theorem G_bound {C f : Addr} {ks : List Str} {x dx : Addr} {as : Vals} {name : Str} {ex : Bool} (ok : ClsOk fm.K C ks) (hi : ∀ s, Sit fm vs cs s → (INS C ks x dx as).ok s.heap) (ha : findIn fm.K (.ref C) name = some (some (.ref f))) (hf : isFn fm.K (.ref f) = true)
    (hgf : specialIn fm.K (.ref f) "__get__" = some (some (.builtin "function.__get__"))) (ht : takesIn fm.K (.ref f) = some false) (hc : copiedNames.contains name = false) (hn : name ∉ ks) (h : ∀ W, Q (.ref W) vs (MTH W f x :: cs)) : G w A fm (getAttr (.ref x) name ex) Q E vs cs := fun s S => by
  obtain ⟨es, n, I, en⟩ := INS.inst (hi s S)
  have X := S.top.kin
  exact get_bind X I (plainGet_of ok.get).1 (findObj_fn ok.dict ha hgf ht hc (by show lookIn name (dictOf es n) = _; rw [en.look, look_none hn])) (plainGet_of ok.get).2
    (wpAny_call (fn_get (s := { s with toks := s.toks + 1 }) X (beq_iff_eq.mp hf) (handed_on rfl ⟨vs, _, S.push (P := fun o => o = methodObj (.ref f) (.ref x)) (t := s.toks + 1) rfl rfl, h _⟩)))
theorem G_MethStar {o e : Expr} {name : Str} {apos pp p : Pos} (h : G w A fm (eval o fm.env) (fun ov vs cs => G w A fm (getAttr ov name true) (fun fv vs cs => G w A fm (callWith p fv [] (backTo p (starEach [.Starred e pp] fm.env)) []) Q E vs cs) E vs cs) E vs cs)
    (he : eval (.Call (.Attribute o name apos) [.Starred e pp] [] p) fm.env = (do
      let ov ← eval o fm.env
      standAt apos.atName
      let r ← holding [ov] (do pure (← getAttr ov name true, ([] : List Value)))
      callWith p r.1 r.2 (backTo p (starEach [.Starred e pp] fm.env)) [])) : G w A fm (eval (.Call (.Attribute o name apos) [.Starred e pp] [] p) fm.env) Q E vs cs := fun s S => by
  rw [he]
  refine wpAny_bind (wpAny_mono (h s S) (fun ov s₁ ⟨_, _, S₁, q⟩ => ?_) fun _ _ x => x)
  refine wpAny_bind (wpAny_standAt (wpAny_bind (wpAny_holding (wpAny_bind (wpAny_mono (q s₁ S₁) (fun fv s₂ ⟨_, _, S₂, q⟩ => wpAny_pure ?_) fun _ _ x => x)))))
  exact q s₂ S₂
theorem G_callStarM {p pp : Pos} {W f x : Addr} {e : Expr} (hf : fnIn fm.K f = true)
    (h : G w A fm (eval e fm.env) (fun v vs cs => E2 fun a xs => A5 (v = .ref a) (xs.length ≤ sizeLine) (MTH W f x ∈ cs) (∀ s, Sit fm vs cs s → SeqAtH s.heap a xs) (G w A fm (call (.ref W) xs) Q E vs cs)) E vs cs)
    (he : starEach [.Starred e pp] fm.env = [(true, eval e fm.env)]) : G w A fm (callWith p (.ref W) [] (backTo p (starEach [.Starred e pp] fm.env)) []) Q E vs cs := fun s S => by
  rw [he]
  refine ks_call (P := MethP fm.K W f (.ref x)) rfl (keeps_M hf) (ks_lone (wpAny_mono (h s S) (fun v s₁ ⟨vs₁, cs₁, S₁, a, xs, ev, hsz, hm, hl, g⟩ => ?_) fun _ _ x => x))
  subst ev
  obtain ⟨o, T, n, ho, hc, hT, hd⟩ := hl s₁ S₁
  have z : wpAny (MD w) A (collect (.ref a)) (fun vs s₂ => MethP fm.K W f (.ref x) s₂.heap ∧ wpAny (MD w) A (call (.ref W) ([] ++ vs) []) (fun a => At fm (Q a)) (fun e => At fm (E e)) s₂) (fun e => At fm (E e)) s₁ :=
    wpAny_collect_seq a hT ho hc hd (fun h' hk => by
      have S₂ : Sit fm vs₁ cs₁ { s₁ with heap := h' } := S₁.grow (cn := []) (t := s₁.toks) hk (fun _ q => (nomatch q)) List.Pairwise.nil
      exact ⟨⟨mthAt hm _ S₂, S₂.top.kin⟩, g _ S₂⟩) (by rw [List.size_toArray]; exact hsz)
  have hT' : s₁.TypeIs (.ref a) T := ⟨o, ho, hc⟩
  unfold StarOf notIterableAtAll
  rcases hT with rfl | rfl
  · exact wpAny_bind (wpAny_specialOf hT' PySem.F.slot_list_iter.lookup (wpAny_pure ⟨rfl, z⟩))
  · exact wpAny_bind (wpAny_specialOf hT' PySem.F.slot_tuple_iter.lookup (wpAny_pure ⟨rfl, z⟩))
/-- a bound method is called, by the contract of its function -/
theorem G_specM {k : Nat} {W f x : Addr} {args : List Value} {B : Heap → Prop} {cs₀ rest : List HP} {Post : Value → List HP → Prop} (hm : MTH W f x ∈ cs₀ ++ rest) (hs : Spec w fm.K k (.ref f) ⟨.ref x :: args, []⟩ B cs₀ Post) (hA : Rm A k)
    (hB : ∀ s, Sit fm vs (cs₀ ++ rest) s → B s.heap) (h : ∀ v cs₁, Post v cs₁ → Q v vs (cs₁ ++ rest)) (hf : fm.fr = frOf A := by rfl) : G w A fm (call (.ref W) args) Q E vs (cs₀ ++ rest) := fun s S =>
  wpAny_call (method_call (mthAt hm s S) (codeAny_mono (hs fm.gp A s hA S.top (hf ▸ S.frH) S.gens (hB s S) (hf ▸ S.owned)) fun r s' ⟨v, cs₁, e, T, p⟩ => by subst e; exact ⟨vs, cs₁ ++ rest, S.call (hf ▸ T), h v cs₁ p⟩))
end
end
end
section
open PySem PySem.W PyProof.Rows PySem.Calls
section
noncomputable def LeS (a b : Str) : Prop := PySem.Spec.ltCps b.cps.toList a.cps.toList = false
theorem LeS.iff {a b : Str} : LeS a b ↔ a.cps.toList ≤ b.cps.toList := by
  unfold LeS
  rw [ltCps_eq]
  exact ⟨fun h => of_decide_eq_false h, fun h => decide_eq_false h⟩
theorem LeS.trans {a b c : Str} (h1 : LeS a b) (h2 : LeS b c) : LeS a c := LeS.iff.mpr (List.le_trans (LeS.iff.mp h1) (LeS.iff.mp h2))
theorem LeS.anti {a b : Str} (h1 : LeS a b) (h2 : LeS b a) : a = b := by
  have h := List.le_antisymm (LeS.iff.mp h1) (LeS.iff.mp h2)
  cases a; cases b
  congr
  exact Array.toList_inj.mp h
theorem rising_pw : ∀ (l : List Str) (p : Str), risingS p l = true → (p :: l).Pairwise LeS
  | [], p, _ => List.pairwise_singleton _ _
  | x :: r, p, h => by
    have h : (!PySem.Spec.ltCps x.cps.toList p.cps.toList && risingS x r) = true := h
    obtain ⟨h1, h2⟩ := Bool.and_eq_true_iff.mp h
    have ih := rising_pw r x h2
    have hp : LeS p x := by simpa [LeS] using h1
    refine List.pairwise_cons.mpr ⟨fun y hy => ?_, ih⟩
    cases hy with
    | head => exact hp
    | tail _ hy => exact hp.trans ((List.pairwise_cons.mp ih).1 y hy)
theorem sorted_pw {l : List Str} (h : sortedS l = true) : l.Pairwise LeS := by
  cases l with
  | nil => exact .nil
  | cons x r => exact rising_pw r x h
theorem sorted_unique : ∀ {l r : List Str}, l.Perm r → l.Pairwise LeS → r.Pairwise LeS → l = r
  | [], r, p, _, _ => p.nil_eq
  | a :: l, r, p, hl, hr => by
    cases r with
    | nil => exact absurd p.symm.nil_eq (by simp)
    | cons b r =>
      have hab : a = b := by
        have ha : a ∈ b :: r := p.mem_iff.mp (.head _)
        have hb : b ∈ a :: l := p.mem_iff.mpr (.head _)
        cases ha with
        | head => rfl
        | tail _ ha =>
          cases hb with
          | head => rfl
          | tail _ hb => exact ((List.pairwise_cons.mp hl).1 b hb).anti ((List.pairwise_cons.mp hr).1 a ha)
      subst hab
      rw [sorted_unique (List.Perm.cons_inv p) (List.pairwise_cons.mp hl).2 (List.pairwise_cons.mp hr).2]
theorem any_perm {h h' : List Str} (p : h.Perm h') (k : Str) : h.any (· == k) = h'.any (· == k) := by
  rw [Bool.eq_iff_iff, any_mem, any_mem]; exact p.mem_iff
theorem kept_perm {P : Prs} {h h' : List Str} (p : h.Perm h') (k : Str) : kept P h k = kept P h' k := by
  unfold kept
  have : pin P h k = pin P h' k := funext fun q => by unfold pin; rw [any_perm p]
  rw [this]
theorem far_perm {P : Prs} {h h' : List Str} (p : h.Perm h') : (farther P h).Perm (farther P h') := by
  unfold farther
  rw [show (fun one => !(kept P h' one).isEmpty) = fun one => !(kept P h one).isEmpty from funext fun k => by rw [kept_perm p]]
  exact p.filter _
theorem gone_perm {P : Prs} {h h' : List Str} (p : h.Perm h') : (gone P h).Perm (gone P h') := by
  unfold gone
  rw [show (fun one => !((farther P h').any (· == one))) = fun one => !((farther P h).any (· == one)) from funext fun k => by rw [any_perm (far_perm p)]]
  exact p.filter _
theorem left_perm {P : Prs} {h h' : List Str} (p : h.Perm h') : ∀ i, (left P h i).Perm (left P h' i)
  | 0 => p
  | i + 1 => far_perm (left_perm p i)
theorem fix_perm {P : Prs} {h h' : List Str} (p : h.Perm h') : farther P h = h ↔ farther P h' = h' := by
  have key : ∀ h : List Str, farther P h = h ↔ (farther P h).length = h.length := fun h => ⟨fun e => by rw [e], fun e => (List.filter_sublist ..).eq_of_length e⟩
  rw [key, key, (far_perm p).length_eq, p.length_eq]
theorem left_sorted {P : Prs} {h : List Str} (hs : h.Pairwise LeS) : ∀ i, (left P h i).Pairwise LeS
  | 0 => hs
  | i + 1 => (left_sorted hs i).sublist (List.filter_sublist ..)
/-- the rounds, as told by the sorter -/
structure Rounds (P : Prs) (h : List Str) (n : Nat) (rounds : List (List Str)) : Prop where
  goes : ∀ i < n, farther P (left P h i) ≠ left P h i
  stop : farther P (left P h n) = left P h n
  len : rounds.length = n
  each : ∀ (i : Nat) (r : List Str), rounds[i]? = some r → r.Pairwise LeS ∧ r.Perm (gone P (left P h i))
theorem Rounds.same {P : Prs} {h h' : List Str} {n n' : Nat} {rs rs' : List (List Str)} (a : Rounds P h n rs) (b : Rounds P h' n' rs') (p : h.Perm h') : n = n' ∧ rs = rs' := by
  have en : n = n' := by
    rcases Nat.lt_trichotomy n n' with q | q | q
    · exact absurd ((fix_perm (left_perm p n)).mp a.stop) (b.goes n q)
    · exact q
    · exact absurd ((fix_perm (left_perm p n')).mpr b.stop) (a.goes n' q)
  refine ⟨en, List.ext_getElem? fun i => ?_⟩
  by_cases hi : i < n
  · have h1 := List.getElem?_eq_getElem (l := rs) (by rw [a.len]; exact hi)
    have h2 := List.getElem?_eq_getElem (l := rs') (by rw [b.len, ← en]; exact hi)
    obtain ⟨s1, p1⟩ := a.each i _ h1
    obtain ⟨s2, p2⟩ := b.each i _ h2
    rw [h1, h2, sorted_unique (p1.trans ((gone_perm (left_perm p i)).trans p2.symm)) s1 s2]
  · rw [List.getElem?_eq_none (by rw [a.len]; omega), List.getElem?_eq_none (by rw [b.len, ← en]; omega)]
end
end
section
open PySem PySem.W PyProof.Rows PySem.Calls
section
/-- the truth of an own object, by its __bool__ -/
theorem G_truthyO {w : World} {A : Around} {fm : Fm} {vs : Vals} {cs : List HP} {E : Value → Vals → List HP → Prop} {C f : Addr} {ks : List Str} {x dx : Addr} {as : Vals} {Q : Bool → Vals → List HP → Prop} (hi : ∀ s, Sit fm vs cs s → (INS C ks x dx as).ok s.heap) (hs : findIn fm.K (.ref C) "__bool__" = some (some (.ref f))) (ht : isFn fm.K (.ref f) = true)
    (h : G w A fm (call (.ref f) [.ref x]) (fun v vs cs => ∃ b, v = .bool b ∧ Q b vs cs) E vs cs) : G w A fm (truthy (.ref x)) Q E vs cs := fun s S => by
  obtain ⟨es, n, I, en⟩ := INS.inst (hi s S)
  unfold truthy
  refine wpAny_bind (m := callSpecial? (.ref x) (Str.ofString "__bool__")) (special_fn S.top.kin I hs (beq_iff_eq.mp ht) (wpAny_mono (h s S) (fun r s' hr => ?_) fun _ _ y => y))
  obtain ⟨vs', cs', S', b, rfl, q⟩ := hr
  exact wpAny_pure ⟨vs', cs', S', q⟩
noncomputable abbrev strsD (l : List Str) : PyData := .list (l.map .str)
noncomputable abbrev goneD (held : Bool) (rounds : List (List Str)) : PyData := .tuple [.bool held, .list (rounds.map strsD), .bool false]
theorem way_key {P : Prs} {g : Gr} {h : List Str} {rdl : List Str} (I : Inv P h g rdl) {k : Str} (hw : Way (sus P) k k) : k ∈ keysOf g := by
  obtain ⟨y, h1, _⟩ := hw.last
  exact (I.ends _ (mem_sus.mp h1)).1
theorem left_ring {P : Prs} {h : List Str} (hh : ∀ k, Way (sus P) k k → k ∈ h) : ∀ i k, Way (sus P) k k → k ∈ left P h i
  | 0 => hh
  | i + 1 => ring_stays (left_ring hh i)
theorem left_sub {P : Prs} {h : List Str} : ∀ i, ∀ k ∈ left P h i, k ∈ h
  | 0, _, hk => hk
  | i + 1, k, hk => left_sub i k (far_mem.mp hk).1
noncomputable abbrev ns_gone : List Str := ["sorter", "held", "rounds", "step", "group"]
noncomputable abbrev gs_gone : List (Str × Value) := [("CycleError", .ref 85), ("range", .type "range"), ("sorted", .builtin "sorted")]
theorem ok_gone (w : World) : FnOk (KT w) 917 fd_gone ns_gone gs_gone := fnOk_of (at_gone w) (by kernel_rfl!)
theorem sp_gone (gp : GP) (w : World) (x dx D : Addr) (g : Gr) (N : Nat) (hN : N ≤ 900) (P : Prs) (I : Inv P (keysOf g) g (readyOf g)) (hlen : (keysOf g).length < 20) (cs₀ : List HP) (h0 : SRT w x dx D .none 0 0 g N cs₀) :
    SpecX gp w (KT w) 3 (.ref 917) ⟨[.ref x], []⟩ (fun _ => True) cs₀ (fun v cs => E5 fun d F held n rounds => A4 (v = .ref d) (cs = [DAT (.ref d) (goneD held rounds) F]) (Rounds P (keysOf g) n rounds) (held = !(left P (keysOf g) n).isEmpty)) .none (fun _ => False) := by
  have h0' := h0
  obtain ⟨nds0, tpo0, tnf0, hg0, rfl⟩ := h0
  refine SpecX.of_bodyF (ok_gone w) (by decide +kernel) rfl (binds := [("sorter", .ref x)]) (fun s _ _ => BindsTo.of_eq (by kernel_rfl!)) (locs (by kernel_rfl!)) (vs₀ := [some (.ref x), none, none, none, none]) ⟨rfl, trivial⟩ ?_
  intro A b hA hFA hFT T hB
  generalize hF0 : feet _ = F0
  refine GX.ofG ?_
  refine letG ?_
  intro fm Q0
  refine G_cons ?_
  cell_end 5 0 0
  let R1 : Vals → List HP → Prop := fun vs cs => E2 fun hb ra => A4 (vs = [some (.ref x), some (.bool hb), none, none, none]) (hb = true → ∃ n, Way (suOf g) n n) (hb = false → ∃ fin, A3 (Topo (suOf g) fin) fin.Nodup (∀ k ∈ keysOf g, k ∈ fin)) (RUN w x dx D ra 0 0 g N (readyOf g) cs)
  refine G_midT R1 ?_ ?_
  · refine G_TryOwn (fun vs cs => vs = [some (.ref x), some (.bool false), none, none, none] ∧ (∃ n, Way (suOf g) n n) ∧ ∃ ra, RUN w x dx D ra 0 0 g N (readyOf g) cs) (ok_85 w) hFT rfl rfl (by cell_end 4 0 0) ?_ ?_
    · refine GX_cons (GX_ExprA (GX_methI0 (cok_TS w) (f := 122) (by kernel_rfl!) (by kernel_rfl!) (by decide +kernel) (by kernel_rfl!) ?_ (by rfl)) (by k_dflt rfl))
      cell_end 5 0 0
      refine ⟨x, dx, _, rfl, insAt (by cell_end 7 0 0), ?_⟩
      refine GX_specX (cs₀ := [_, _, _]) (rest := []) (sp_prepare gp w x dx D 0 0 g N hN (fun k _ => I.closed k) _ h0') hA hFA (fun _ _ => trivial) ?_ ?_
      · rintro v cs ⟨rfl, hfin, ra, hrun⟩
        refine ⟨rfl, ?_⟩
        cell_end 5 0 0
        exact ⟨rfl, false, ra, rfl, fun q => (by cases q), fun _ => hfin, by rw [List.append_nil]; exact hrun⟩
      · rintro cs ⟨hw, ra, hrun⟩
        exact ⟨rfl, hw, ra, by rw [List.append_nil]; exact hrun⟩
    · rintro ex vs cs ⟨rfl, hw, ra, hrun⟩
      cell_end 5 0 0
      exact ⟨rfl, true, ra, rfl, fun _ => hw, fun q => (by cases q), hrun⟩
  rintro vs cs ⟨hb, ra, rfl, hb1, hb2, nds, tpo, tnf, rvs, hg, hrs, rfl⟩
  have hsu : suOf g = sus P := funext I.su
  rw [hsu] at hb1 hb2
  cell_end 5 0 0
  refine G_newList (fun _ => .nil) (szl (by decide)) fun la => ?_
  cell_end 5 0 0
  refine G_For ?_
  cell_end 5 0 0
  refine G_range1 fun r => ?_
  let J2 : Nat → Vals → List HP → Prop := fun i vs cs => E13 fun n (rounds : List (List Str)) lv F g' rdl po nds tpo tnf rvs st gr => A11 (vs = [some (.ref x), some (.bool hb), some (.ref la), st, gr]) (Inv P (left P (keysOf g) n) g' rdl) (∀ j < n, farther P (left P (keysOf g) j) ≠ left P (keysOf g) j) (rounds.length = n) (∀ (j : Nat) (r : List Str), rounds[j]? = some r → r.Pairwise LeS ∧ r.Perm (gone P (left P (keysOf g) j))) (n ≤ i) (n = i ∨ rdl = []) (keysOf g' = keysOf g) (GrOk nds g' N) (Strs rvs rdl) (cs = [RNG r 0 20 1, LSX la lv (rounds.map strsD) F, TSO x dx D (.ref ra) po tpo po tnf, DCT w D (kvs nds), NDS nds, RAW ra rvs])
  refine ⟨_, _, _, J2, Src.range (a := 0) (b := 20) (c := 1) hA.handled (by decide), ⟨0, [], [], [], g, readyOf g, 0, nds, tpo, tnf, rvs, none, none, rfl, I, fun j hj => absurd hj (Nat.not_lt_zero _), rfl, fun j r q => by simp at q, Nat.le_refl _, .inl rfl, rfl, hg, hrs, rfl⟩, ?_, ?_, ?_⟩
  · rintro i vs cs s ⟨n, rounds, lv, F, g', rdl, po, nds, tpo, tnf, rvs, st, gr, rfl, _, _, _, _, _, _, _, _, _, rfl⟩ S
    exact sitRng (.head _) s S
  · rintro i v vs cs X hi ⟨tk, rfl⟩ ⟨n, rounds, lv, F, g', rdl, po, nds, tpo, tnf, rvs, st, gr, rfl, hI, hgo, hrl, hea, hni, hor, hky, hg, hrs, rfl⟩
    have hi20 : i < 20 := Nat.lt_of_lt_of_le hi (by decide)
    have hrdl : rdl.length < 20 := by
      refine Nat.lt_of_le_of_lt (len_le hI.rnd (keys := keysOf g) fun k hk => ?_) hlen
      rw [← hky]; exact hI.rsub k hk
    have hrun : RUN w x dx D ra po po g' N rdl [TSO x dx D (.ref ra) po tpo po tnf, DCT w D (kvs nds), NDS nds, RAW ra rvs] := ⟨nds, tpo, tnf, rvs, hg, hrs, rfl⟩
    refine G_sub (cs' := [RNG r 0 20 1, LSX la lv (rounds.map strsD) F, TSO x dx D (.ref ra) po tpo po tnf, DCT w D (kvs nds), NDS nds, RAW ra rvs, X]) (.refl _) ?_
    cell_end 5 0 0
    refine G_truthyO (C := 167) (f := 143) (ks := ksTS) (dx := dx) (insAt (by cell_end 7 0 0)) (by kernel_rfl!) (by kernel_rfl!) ?_
    refine G_perm (cs' := [TSO x dx D (.ref ra) po tpo po tnf, DCT w D (kvs nds), NDS nds, RAW ra rvs] ++ [RNG r 0 20 1, LSX la lv (rounds.map strsD) F, X]) (by cell_end 9 0 0) ?_
    refine G_spec (cs₀ := [TSO x dx D (.ref ra) po tpo po tnf, DCT w D (kvs nds), NDS nds, RAW ra rvs]) (sp_tsBool w x dx D ra po po g' N rdl (by omega) _ hrun) hA (fun _ _ => trivial) ?_
    rintro v cs ⟨rfl, rfl⟩
    refine ⟨_, rfl, ?_⟩
    have hlt : decide (po < po) = false := decide_eq_false (Int.lt_irrefl _)
    rw [hlt, Bool.false_or]
    refine bif_s (fun h1 => ?_) (fun h1 => ?_)
    · have hr0 : rdl ≠ [] := fun q => by rw [q] at h1; cases h1
      have hn : n = i := hor.resolve_right hr0
      subst hn
      refine G_sub (cs' := [TSO x dx D (.ref ra) po tpo po tnf, DCT w D (kvs nds), NDS nds, RAW ra rvs, RNG r 0 20 1, LSX la lv (rounds.map strsD) F, X]) (.refl _) ?_
      cell_end 5 0 0
      refine G_methI (cok_TS w) (f := 129) (by kernel_rfl!) (by kernel_rfl!) (by decide +kernel) ?_ (by rfl)
      cell_end 5 0 0
      refine ⟨x, dx, _, rfl, insAt (by cell_end 7 0 0), ?_⟩
      refine G_crS0 (by kernel_rfl!) ?_
      refine G_spec (cs₀ := [TSO x dx D (.ref ra) po tpo po tnf, DCT w D (kvs nds), NDS nds, RAW ra rvs]) (rest := [RNG r 0 20 1, LSX la lv (rounds.map strsD) F, X]) (sp_getReady w x dx D ra po po g' N rdl (by omega) hI.rsub _ hrun) (hA.le (by decide)) (fun _ _ => trivial) ?_
      rintro v cs ⟨d, gvs, cs₁, rfl, hgv, rfl, nds1, tpo1, tnf1, rvs1, hg1, hrs1, rfl⟩
      cell_end 1 0 0
      cell_end 1 0 0
      refine G_sub (cs' := [TUP d gvs, TSO x dx D (.ref ra) (po + rdl.length) tpo1 po tnf1, DCT w D (kvs nds1), NDS nds1, RAW ra rvs1, RNG r 0 20 1, LSX la lv (rounds.map strsD) F, X]) (.refl _) ?_
      cell_end 5 0 0
      cell_end 6 0 0
      cell_end 5 0 0
      refine ⟨LSX.ty (by cell_end 7 0 0), ?_⟩
      cell_end 5 0 0
      refine G_sorted (seqTup (by cell_end 7 0 0)) hgv (by rw [hgv.length]; omega) fun sb out ss hso hsp hss => ?_
      refine G_raw0 (ds := ss.map .str) (fun _ => hso.rx) ?_
      refine G_shut ?_
      refine G_perm (cs' := [LSX la lv (rounds.map strsD) F, DAT (.ref sb) (.list (ss.map .str)) [sb], TUP d gvs, TSO x dx D (.ref ra) (po + rdl.length) tpo1 po tnf1, DCT w D (kvs nds1), NDS nds1, RAW ra rvs1, RNG r 0 20 1, X]) (by cell_end 9 0 0) ?_
      refine G_append_own (szl (by rw [List.length_map]; omega)) ?_
      refine ⟨fun _ q => (nomatch q), ?_⟩
      cell_end 5 0 0
      refine G_MethStar ?_ (by rfl)
      cell_end 5 0 0
      refine G_bound (cok_TS w) (f := 150) (insAt (by cell_end 7 0 0)) (by kernel_rfl!) (by kernel_rfl!) (by kernel_rfl!) (by kernel_rfl!) (by decide +kernel) (by decide +kernel) fun W => ?_
      refine G_callStarM (f := 150) (x := x) (by kernel_rfl!) ?_ (by rfl)
      cell_end 5 0 0
      refine ⟨d, gvs, rfl, szl (by rw [hgv.length]; omega), by cell_end 7 0 0, seqTup (by cell_end 7 0 0), ?_⟩
      refine G_perm (cs' := [TSO x dx D (.ref ra) (po + rdl.length) tpo1 po tnf1, DCT w D (kvs nds1), NDS nds1, RAW ra rvs1] ++ [RNG r 0 20 1, LSX la (lv ++ [.ref sb]) (rounds.map strsD ++ [.list (ss.map .str)]) (F ++ [sb]), TUP d gvs, MTH W 150 x, X]) (by cell_end 9 0 0) ?_
      refine G_specM (cs₀ := [TSO x dx D (.ref ra) (po + rdl.length) tpo1 po tnf1, DCT w D (kvs nds1), NDS nds1, RAW ra rvs1]) (memS (memS (memS (memS (memS (memS (memS mem0))))))) (sp_done w x dx D ra (po + rdl.length) po (outs g' rdl) N [] rdl gvs hgv hN (Nat.zero_le _) (by omega) (fun k hk => by rw [outs_keys]; exact hI.rsub k hk) (fun k _ s hs => by rw [outs_keys]; rw [outs_su] at hs; exact hI.closed k s hs) (fun k hk => by rw [outs_np hI.rsub, if_pos hk]) hI.rnd (fun k hk j hj => by rw [outs_su]; exact hI.sep k hk j hj) _ ⟨nds1, tpo1, tnf1, rvs1, hg1, hrs1, rfl⟩) (hA.le (by decide)) (fun _ _ => trivial) ?_
      rintro v cs ⟨rfl, nds2, tpo2, tnf2, rvs2, hg2, hrs2, rfl⟩
      refine ⟨fun _ q => (nomatch q), ?_⟩
      cell_end 1 0 0
      refine G_perm (cs' := [TUP d gvs, MTH W 150 x, RNG r 0 20 1, LSX la (lv ++ [.ref sb]) (rounds.map strsD ++ [.list (ss.map .str)]) (F ++ [sb]), TSO x dx D (.ref ra) (po + rdl.length) tpo2 (po + rdl.length) tnf2, DCT w D (kvs nds2), NDS nds2, RAW ra rvs2, X]) (by cell_end 9 0 0) ?_
      refine G_drop (G_drop ?_)
      cell_end 5 0 0
      refine ⟨[RNG r 0 20 1, LSX la (lv ++ [.ref sb]) (rounds.map strsD ++ [.list (ss.map .str)]) (F ++ [sb]), TSO x dx D (.ref ra) (po + rdl.length) tpo2 (po + rdl.length) tnf2, DCT w D (kvs nds2), NDS nds2, RAW ra rvs2], ?_, n + 1, rounds ++ [ss], lv ++ [.ref sb], F ++ [sb], (rdl.foldl done1 (outs g' rdl, [])).1, (rdl.foldl done1 (outs g' rdl, [])).2, po + rdl.length, nds2, tpo2, tnf2, rvs2, _, _, rfl, hI.step, fun j hj => ?_, by rw [List.length_append, hrl]; rfl, fun j r hj => ?_, Nat.le_refl _, .inl rfl, ?_, hg2, hrs2, ?_⟩
      · cell_end 9 0 0
      · rcases Nat.lt_succ_iff_lt_or_eq.mp hj with q | q
        · exact hgo j q
        · rw [q]; exact fun e => hr0 (hI.stop.mpr e)
      · by_cases q : j < rounds.length
        · rw [List.getElem?_append_left q] at hj
          exact hea j r hj
        · rw [List.getElem?_append_right (by omega)] at hj
          have q1 : j = rounds.length := by
            cases q2 : j - rounds.length with
            | zero => omega
            | succ m => rw [q2] at hj; cases hj
          rw [q1, Nat.sub_self] at hj
          cases hj
          rw [q1, hrl]
          exact ⟨sorted_pw hss, hsp.trans hI.gone⟩
      · rw [dones_keys]; exact (outs_keys ..).trans hky
      · rw [List.map_append]; rfl
    · have hr0 : rdl = [] := by cases rdl with | nil => rfl | cons a r => cases h1
      cell_end 5 0 0
      refine ⟨[RNG r 0 20 1, LSX la lv (rounds.map strsD) F, TSO x dx D (.ref ra) po tpo po tnf, DCT w D (kvs nds), NDS nds, RAW ra rvs], ?_, n, rounds, lv, F, g', rdl, po, nds, tpo, tnf, rvs, _, _, rfl, hI, hgo, hrl, hea, Nat.le_succ_of_le hni, .inr hr0, hky, hg, hrs, rfl⟩
      cell_end 9 0 0
  · rintro vs cs ⟨n, rounds, lv, F, g', rdl, po, nds, tpo, tnf, rvs, st, gr, rfl, hI, hgo, hrl, hea, hni, hor, hky, hg, hrs, rfl⟩
    have hrdl : rdl = [] := by
      rcases hor with q | q
      · have := left_len (P := P) (h := keysOf g) (n := n) hgo
        have q : n = 20 := q
        omega
      · exact q
    subst hrdl
    have hrun : RUN w x dx D ra po po g' N [] [TSO x dx D (.ref ra) po tpo po tnf, DCT w D (kvs nds), NDS nds, RAW ra rvs] := ⟨nds, tpo, tnf, rvs, hg, hrs, rfl⟩
    cell_end 5 0 0
    refine G_methI (cok_TS w) (f := 136) (by kernel_rfl!) (by kernel_rfl!) (by decide +kernel) ?_ (by rfl)
    cell_end 5 0 0
    refine ⟨x, dx, _, rfl, insAt (by cell_end 7 0 0), ?_⟩
    refine G_crS0 (by kernel_rfl!) ?_
    refine G_perm (cs' := [TSO x dx D (.ref ra) po tpo po tnf, DCT w D (kvs nds), NDS nds, RAW ra rvs] ++ [RNG r 0 20 1, LSX la lv (rounds.map strsD) F]) (by cell_end 9 0 0) ?_
    refine G_spec (cs₀ := [TSO x dx D (.ref ra) po tpo po tnf, DCT w D (kvs nds), NDS nds, RAW ra rvs]) (sp_isActive w x dx D ra po po g' N [] (Nat.zero_le _) _ hrun) (hA.le (by decide)) (fun _ _ => trivial) ?_
    rintro v cs ⟨rfl, rfl⟩
    have hlt : decide (po < po) = false := decide_eq_false (Int.lt_irrefl _)
    rw [hlt]
    cell_end 5 0 0
    refine G_sub (cs' := [LSX la lv (rounds.map strsD) F]) (.cons _ (.cons _ (.cons _ (.cons _ (.cons _ (.refl _)))))) ?_
    refine G_shut ?_
    refine G_newTupD (cn := [_]) (cs := []) (Bears.plain (fun _ => .bool hb) (Bears.dat (Bears.plain (fun _ => .bool _) Bears.nil))) (szl (Nat.le_of_ble_eq_true rfl)) fun d => ?_
    cell_end 1 0 0
    refine Out.all ⟨d, _, hb, n, rounds, rfl, rfl, ⟨hgo, hI.stop.mp rfl, hrl, hea⟩, ?_⟩
    cases hb with
    | true =>
      obtain ⟨k, hk⟩ := hb1 rfl
      have := left_ring (P := P) (h := keysOf g) (fun j hj => way_key I hj) n k hk
      cases hl : left P (keysOf g) n with
      | nil => rw [hl] at this; cases this
      | cons => rfl
    | false =>
      obtain ⟨fin, h1, h2, h3⟩ := hb2 rfl
      rw [noRing (fix_has (hI.stop.mp rfl)) h1 h2 fun k hk => h3 k (left_sub n k hk)]
      rfl
end
end
section
open PySem PySem.W PyProof.Rows PySem.Calls
section
section
variable {w : World} {A : Around} {fm : Fm} {vs : Vals} {cs : List HP} {E : Value → Vals → List HP → Prop}
theorem G_notInL {a : Addr} {ys : List Value} {xs : List Str} {x : Str} {t : Tok} {Q : Value → Vals → List HP → Prop} (hl : ∀ s, Sit fm vs cs s → s.heap.IsList a ys.toArray) (hs : Strs ys xs) (h : Q (.bool (!xs.any (· == x))) vs cs) : G w A fm (compareOp .NotIn (.str x t) (.ref a)) Q E vs cs := fun s S => by
  have e : ∀ {ys : List Value} {xs : List Str}, Strs ys xs → ys.any (isStrOf x) = xs.any (· == x) := by
    intro ys xs q
    induction q with
    | nil => rfl
    | cons _ ih => rw [List.any_cons, List.any_cons, ih]; rfl
  refine SeqAt.notIn_listAt (isStrOf x) (hl s S) (fun y hy => (eq_isStrOf x t hs.are y (by simpa using hy)).at _ _) ?_
  rw [List.any_toArray, e hs]
  exact ⟨vs, cs, S, h⟩
theorem G_aTup2 {e1 e2 : Expr} {k : Nat} {p : Pos} {a : Addr} {Q : Unit → Vals → List HP → Prop} (hA : A.handled = none)
    (h : ∀ s, Sit fm vs cs s → ∃ v1 v2, s.heap.IsTuple a #[v1, v2] ∧ G w A fm (assign e1 fm.env v1) (fun _ vs cs => G w A fm (assign e2 fm.env v2) Q E vs cs) E vs cs) (he : assignEach [e1, e2] fm.env = [(false, assign e1 fm.env), (false, assign e2 fm.env)]) : G w A fm (assign (.Tuple [e1, e2] k p) fm.env (.ref a)) Q E vs cs := fun s S => by
  obtain ⟨v1, v2, ht, h⟩ := h s S
  refine wpAny_assign_Tuple hA ht (by rw [he]; rfl) (by rw [he]; rfl) fun h' hx => ?_
  rw [he]
  have S' : Sit fm vs cs { s with heap := h' } := S.grow (cn := []) (t := s.toks) (fun b o q => hx b o (Nat.ne_of_lt (Heap.lt_size q)) q) (fun _ q => (nomatch q)) List.Pairwise.nil
  show wpAny _ _ (do holding [v2] (assign e1 fm.env v1); assignInOrder [assign e2 fm.env] [v2]) _ _ _
  refine wpAny_bind (wpAny_holding (wpAny_mono (h _ S') (fun _ s₁ ⟨_, _, S₁, q⟩ => ?_) fun _ _ x => x))
  show wpAny _ _ (do holding [] (assign e2 fm.env v2); pure ()) _ _ _
  refine wpAny_bind (wpAny_holding (wpAny_mono (q s₁ S₁) (fun _ s₂ z => wpAny_pure z) fun _ _ x => x))
/-- a pair in a list of pairs -/
theorem lsxPair {a : Addr} {xs : List Value} {P : List (Str × Str)} {F : List Addr} (hm : LSX a xs (P.map pairD) F ∈ cs) {i : Nat} {v : Value} {p : Str × Str} (hv : xs[i]? = some v) (hp : P[i]? = some p) : ∀ s, Sit fm vs cs s → ∃ t t1 t2, v = .ref t ∧ s.heap.IsTuple t #[.str p.1 t1, .str p.2 t2] := fun s S => by
  obtain ⟨_, _, r⟩ := (S.own _ hm).1
  obtain ⟨d, H, q1, q2, _⟩ := r.get hv
  rw [List.getElem?_map, hp] at q1
  cases q1
  obtain ⟨x, y⟩ := p
  cases q2 with
  | tuple e r =>
    cases r with
    | cons r1 r2 =>
      cases r1
      cases r2 with
      | cons r3 r4 =>
        cases r3
        cases r4
        exact ⟨_, _, _, rfl, _, e, rfl, _, rfl⟩
theorem G_aNameC {x : Str} {p : Pos} {v : Value} {c : Addr} {o : Option Value} {Q : Unit → Vals → List HP → Prop} (hk : fm.env.kindOf x = some .cell) (hc : fm.env.cells.lookup x = some c) (h : Q () vs (CEL c (some v) :: cs)) : G w A fm (assign (.Name x p) fm.env v) Q E vs (CEL c o :: cs) := fun s S => wpAny_assign_Name (G_storeCell hk hc h s S)
end
theorem eqvAll_strs : ∀ l r : List Str, PyData.eqvAll (l.map .str) (r.map .str) = (l == r)
  | [], [] => rfl
  | [], _ :: _ => rfl
  | _ :: _, [] => rfl
  | a :: l, b :: r => by
    show (PyData.eqv (.str a) (.str b) && PyData.eqvAll (l.map .str) (r.map .str)) = (a == b && l == r)
    rw [eqvAll_strs l r]; rfl
theorem eqv_strs (l r : List Str) : PyData.eqv (strsD l) (strsD r) = (l == r) := by
  rw [← eqvAll_strs]; rfl
theorem fine_strs {l : List Str} (h : ∀ x ∈ l, PyData.strOk x = true) {k : Nat} : Fine (k + 1) (strsD l) := Fine.list fun d hd => by
  obtain ⟨x, hx, rfl⟩ := List.mem_map.mp hd
  exact .str (h x hx)
theorem raw_rx {fm : Fm} {vs : Vals} {cs : List HP} {a : Addr} {xs : List Value} {l : List Str} (hm : RAW a xs ∈ cs) (hs : Strs xs l) : ∀ s, Sit fm vs cs s → ∃ F, Rx s.heap F (.ref a) (strsD l) := fun s S => by
  obtain ⟨o, ho, n, rfl⟩ := (S.own _ hm).1
  exact ⟨_, .list ho hs.rx⟩
end
end
section
open PySem PySem.W PyProof.Rows PySem.Calls
section
noncomputable abbrev ns_chains : List Str := ["names", "rounds"]
noncomputable abbrev gs_chains : List (Str × Value) := [("sorted", .builtin "sorted")]
theorem ok_chains (w : World) : FnOk (KT w) 922 fd_chains ns_chains gs_chains := fnOk_of (at_chains w) (by kernel_rfl!)
theorem sp_chains (w : World) (na pa : Addr) (nvs pvs : List Value) (names : List Str) (P : Prs) (F : List Addr) (hns : Strs nvs names) (hn : names.length < 60) (hP : P.length ≤ 1000) (hok : ∀ x ∈ names, PyData.strOk x = true) :
    Spec w (KT w) 1 (.ref 922) ⟨[.ref na, .ref pa], []⟩ (fun _ => True) [RAW na nvs, LSX pa pvs (P.map pairD) F] (fun v cs => E5 fun d F' h0 n rounds => A5 (h0.Perm names) (h0.Pairwise LeS) (Rounds P h0 n rounds) (v = .ref d) (cs = [DAT (.ref d) (goneD (!(left P h0 n).isEmpty) rounds) F', RAW na nvs, LSX pa pvs (P.map pairD) F])) := by
  refine Spec.of_bodyC (ok_chains w) rfl (binds := [("names", .ref na), ("pairs", .ref pa)]) (by kernel_rfl!) rfl (cells := fun L => [("farther", L + 2), ("here", L + 1), ("pairs", L)]) (fun L => by kernel_rfl!) (fun L p hp => ?_) (fun x hx => ?_) (fun p hp L => (ok_chains w).gok p hp L) (vs₀ := [some (.ref na), none]) ⟨rfl, trivial⟩ (cc := fun L => [CEL (L + 2) none, CEL (L + 1) none, CEL L (some (.ref pa))]) (fun L => by kernel_rfl!) ?_
  · rcases List.mem_cons.mp hp with rfl | hp
    · kernel_rfl!
    · rcases List.mem_cons.mp hp with rfl | hp
      · kernel_rfl!
      · cases List.mem_singleton.mp hp; kernel_rfl!
  · rcases List.mem_cons.mp hx with rfl | hx
    · exact .inl (by kernel_rfl!)
    · cases List.mem_singleton.mp hx; exact .inr ⟨by kernel_rfl!, fun L => by kernel_rfl!⟩
  intro gp A b hA T hB
  generalize feet _ = F0
  refine G_sub (cs' := [CEL (b.heap.objs.size + 1 + 1 + 1) none, CEL (b.heap.objs.size + 1 + 1) none, CEL (b.heap.objs.size + 1) (some (.ref pa)), RAW na nvs, LSX pa pvs (P.map pairD) F]) (.refl _) ?_
  refine letG ?_
  intro fm Q0
  refine G_cons ?_
  cell_end 5 0 0
  refine G_newList (fun _ => .nil) (szl (by decide)) fun la => ?_
  cell_end 1 0 0
  cell_end 1 0 0
  cell_end 1 0 0
  refine G_AssignC ?_ (by rfl)
  cell_end 5 0 0
  refine G_sorted (seqRaw (by cell_end 7 0 0)) hns (by rw [hns.length]; omega) fun ha hvs h0 hhs hhp hhso => ?_
  refine G_perm (cs' := [CEL (b.heap.objs.size + 1 + 1) none, CEL (b.heap.objs.size + 1 + 1 + 1) none, CEL (b.heap.objs.size + 1) (some (.ref pa)), RAW ha hvs, LSX la [] [] [], RAW na nvs, LSX pa pvs (P.map pairD) F]) (by cell_end 9 0 0) ?_
  refine G_storeCell (by rfl) (by rfl) ?_
  cell_end 1 0 0
  cell_end 1 0 0
  have hpl : h0.length < 60 := by rw [hhp.length_eq]; exact hn
  let J21 : Nat → Vals → List HP → Prop := fun m vs cs => E8 fun i h ha hvs fo (rounds : List (List Str)) lv F' => A8 (vs = [some (.ref na), some (.ref la)]) (h = left P h0 i) (Strs hvs h) (∀ j < i, farther P (left P h0 j) ≠ left P h0 j) (rounds.length = i) (∀ (j : Nat) (r : List Str), rounds[j]? = some r → r.Pairwise LeS ∧ r.Perm (gone P (left P h0 j))) (m = h.length) (cs = [CEL (b.heap.objs.size + 1 + 1) (some (.ref ha)), CEL (b.heap.objs.size + 1 + 1 + 1) fo, CEL (b.heap.objs.size + 1) (some (.ref pa)), RAW ha hvs, LSX la lv (rounds.map strsD) F', RAW na nvs, LSX pa pvs (P.map pairD) F])
  refine G_While J21 ⟨0, h0, ha, hvs, none, [], [], [], rfl, rfl, hhs, fun j hj => absurd hj (Nat.not_lt_zero _), rfl, fun j r q => by simp at q, rfl, rfl⟩ ?_
  clear hhs
  rintro m vs cs ⟨i, h, ha, hvs, fo, rounds, lv, F', rfl, hh, hhs, hgo, hrl, hea, rfl, rfl⟩
  have hhl : h.length < 60 := by
    have := left_len (P := P) (h := h0) (n := i) hgo
    rw [hh]; omega
  have hhok : ∀ x ∈ h, PyData.strOk x = true := fun x hx => by
    rw [hh] at hx
    exact hok x (hhp.mem_iff.mp (left_sub i x hx))
  cell_end 1 0 0
  cell_end 1 0 0
  cell_end 1 0 0
  refine G_cons ?_
  refine G_AssignC ?_ (by rfl)
  refine G_ListComp (cl := [("pairs", b.heap.objs.size + 1), ("here", b.heap.objs.size + 1 + 1)]) [] [] ?_ (scOk_of (by kernel_rfl!)) (by k_dflt rfl) (by k_dflt rfl) (by decide +kernel)
  cell_end 5 0 0
  let Z22 : List Value → List HP → Prop := fun ys cs => Strs ys (farther P h) ∧ ∃ C ov, cs = [CEL (b.heap.objs.size + 1 + 1) (some (.ref ha)), CEL (b.heap.objs.size + 1 + 1 + 1) fo, CEL (b.heap.objs.size + 1) (some (.ref pa)), RAW ha hvs, LSX la lv (rounds.map strsD) F', RAW na nvs, LSX pa pvs (P.map pairD) F, CEL C ov]
  let J22 : Addr → Nat → List Value → Vals → List HP → Prop := fun C j ys vs cs => ∃ ov, A3 (vs = []) (Strs ys ((h.take j).filter fun one => !(kept P h one).isEmpty)) (cs = [CEL (b.heap.objs.size + 1 + 1) (some (.ref ha)), CEL (b.heap.objs.size + 1 + 1 + 1) fo, CEL (b.heap.objs.size + 1) (some (.ref pa)), RAW ha hvs, LSX la lv (rounds.map strsD) F', RAW na nvs, LSX pa pvs (P.map pairD) F, CEL (C + 1) ov])
  refine ⟨Z22, _, _, _, J22, ⟨Src.list hA.handled ha hvs, by rw [hhs.length]; exact szl (by omega), sitRaw (by cell_end 7 0 0), fun C => ⟨none, rfl, .nil, rfl⟩, ?_, ?_, ?_⟩, ?_⟩
  · rintro C b' j ys vs cs s - ⟨ov, rfl, _, rfl⟩ S
    exact sitRaw (by cell_end 7 0 0) s S
  · rintro C b' j v ys vs cs Y X hb hj hv ⟨ov, rfl, hys, rfl⟩
    obtain ⟨one, to, hx, rfl⟩ := hhs.get hv
    have htk : h.take (j + 1) = h.take j ++ [one] := by rw [List.take_add_one, hx]; rfl
    refine letG ?_
    intro fm2 Q2
    refine G_perm (cs' := [CEL (C + 1) ov, CEL (b.heap.objs.size + 1 + 1) (some (.ref ha)), CEL (b.heap.objs.size + 1 + 1 + 1) fo, CEL (b.heap.objs.size + 1) (some (.ref pa)), RAW ha hvs, LSX la lv (rounds.map strsD) F', RAW na nvs, LSX pa pvs (P.map pairD) F, Y, X]) (by cell_end 9 0 0) ?_
    refine G_aNameC (by rfl) (by rfl) ?_
    cell_end 1 0 0
    cell_end 1 0 0
    refine G_ListComp (cl := [("one", C + 1), ("here", b.heap.objs.size + 1 + 1)]) ["x", "y"] [] ?_ (scOk_of (by kernel_rfl!)) (by k_dflt rfl) (by k_dflt rfl) (by decide +kernel)
    cell_end 5 0 0
    have hl : pvs.length = P.length := by
      obtain ⟨_, _, r⟩ := (hb.own (LSX pa pvs (P.map pairD) F) (by cell_end 7 0 0)).1
      have := r.length
      rwa [List.length_map] at this
    let Z23 : List Value → List HP → Prop := fun ys cs => Strs ys (kept P h one) ∧ cs = [CEL (C + 1) (some (.str one to)), CEL (b.heap.objs.size + 1 + 1) (some (.ref ha)), CEL (b.heap.objs.size + 1 + 1 + 1) fo, CEL (b.heap.objs.size + 1) (some (.ref pa)), RAW ha hvs, LSX la lv (rounds.map strsD) F', RAW na nvs, LSX pa pvs (P.map pairD) F, Y, X]
    let J23 : Addr → Nat → List Value → Vals → List HP → Prop := fun C2 j2 ys vs cs => E2 fun xo yo => A3 (vs = [xo, yo]) (Strs ys (((P.take j2).filter (pin P h one)).map (·.2))) (cs = [CEL (C + 1) (some (.str one to)), CEL (b.heap.objs.size + 1 + 1) (some (.ref ha)), CEL (b.heap.objs.size + 1 + 1 + 1) fo, CEL (b.heap.objs.size + 1) (some (.ref pa)), RAW ha hvs, LSX la lv (rounds.map strsD) F', RAW na nvs, LSX pa pvs (P.map pairD) F, Y, X])
    refine ⟨Z23, _, _, _, J23, ⟨Src.list hA.handled pa pvs, ?_, fun s S => isList_of (S.lsx (by cell_end 7 0 0)), fun C2 => ⟨none, none, rfl, .nil, rfl⟩, ?_, ?_, ?_⟩, ?_⟩
    · have hl : pvs.length = P.length := by
        obtain ⟨_, _, r⟩ := (hb.own (LSX pa pvs (P.map pairD) F) (by cell_end 7 0 0)).1
        have := r.length
        rwa [List.length_map] at this
      rw [hl]; exact szl (by omega)
    · rintro C2 b2 j2 ys2 vs cs s - ⟨xo, yo, rfl, _, rfl⟩ S
      exact isList_of (S.lsx (by cell_end 7 0 0))
    · rintro C2 b2 j2 v ys2 vs cs Y2 X2 hb2 hj2 hv2 ⟨xo, yo, rfl, hys2, rfl⟩
      obtain ⟨p, hp⟩ : ∃ p, P[j2]? = some p := ⟨_, List.getElem?_eq_getElem (by rw [← hl]; exact hj2)⟩
      have htk2 : P.take (j2 + 1) = P.take j2 ++ [p] := by rw [List.take_add_one, hp]; rfl
      refine G_sub (cs' := [CEL (C + 1) (some (.str one to)), CEL (b.heap.objs.size + 1 + 1) (some (.ref ha)), CEL (b.heap.objs.size + 1 + 1 + 1) fo, CEL (b.heap.objs.size + 1) (some (.ref pa)), RAW ha hvs, LSX la lv (rounds.map strsD) F', RAW na nvs, LSX pa pvs (P.map pairD) F, Y, X, Y2, X2]) (.refl _) ?_
      refine G_know (P := ∃ t, v = .ref t) (fun s S => by obtain ⟨t, _, _, e, _⟩ := lsxPair (by cell_end 7 0 0) hv2 hp s S; exact ⟨t, e⟩) ?_
      rintro ⟨tu, rfl⟩
      refine G_aTup2 hA.handled ?_ (by rfl)
      intro s S
      obtain ⟨t, t1, t2, e, ht⟩ := lsxPair (by cell_end 7 0 0) hv2 hp s S
      cases e
      refine ⟨_, _, ht, ?_⟩
      cell_end 5 0 0
      refine G_eqS ?_
      cell_end 5 0 0
      have hpin : pin P h one p = ((p.1 == one) && h.any (· == p.2)) := rfl
      have hno : pin P h one p = false → Strs ys2 (((P.take (j2 + 1)).filter (pin P h one)).map (·.2)) := fun q => by
        rw [htk2, List.filter_append, List.filter_cons_of_neg (by rw [q]; decide), List.filter_nil, List.append_nil]; exact hys2
      refine bif_s (fun h1 => ?_) (fun h1 => ?_)
      · rw [h1, Bool.true_and] at hpin
        cell_end 5 0 0
        refine G_inL (sitRaw (by cell_end 7 0 0)) hhs ?_
        cell_end 5 0 0
        refine bif_s (fun h2 => ?_) (fun h2 => ?_)
        · cell_end 5 0 0
          refine ⟨[CEL (C + 1) (some (.str one to)), CEL (b.heap.objs.size + 1 + 1) (some (.ref ha)), CEL (b.heap.objs.size + 1 + 1 + 1) fo, CEL (b.heap.objs.size + 1) (some (.ref pa)), RAW ha hvs, LSX la lv (rounds.map strsD) F', RAW na nvs, LSX pa pvs (P.map pairD) F, Y, X], .refl _, _, _, rfl, ?_, rfl⟩
          rw [htk2, List.filter_append, List.filter_cons_of_pos (by rw [hpin]; exact h2), List.filter_nil, List.map_append]
          exact hys2.append (.cons .nil)
        · cell_end 5 0 0
          exact ⟨[CEL (C + 1) (some (.str one to)), CEL (b.heap.objs.size + 1 + 1) (some (.ref ha)), CEL (b.heap.objs.size + 1 + 1 + 1) fo, CEL (b.heap.objs.size + 1) (some (.ref pa)), RAW ha hvs, LSX la lv (rounds.map strsD) F', RAW na nvs, LSX pa pvs (P.map pairD) F, Y, X], .refl _, _, _, rfl, hno (by rw [hpin]; exact h2), rfl⟩
      · rw [h1, Bool.false_and] at hpin
        cell_end 5 0 0
        exact ⟨[CEL (C + 1) (some (.str one to)), CEL (b.heap.objs.size + 1 + 1) (some (.ref ha)), CEL (b.heap.objs.size + 1 + 1 + 1) fo, CEL (b.heap.objs.size + 1) (some (.ref pa)), RAW ha hvs, LSX la lv (rounds.map strsD) F', RAW na nvs, LSX pa pvs (P.map pairD) F, Y, X], .refl _, _, _, rfl, hno hpin, rfl⟩
    · rintro C2 ys2 vs cs ⟨xo, yo, rfl, hys2, rfl⟩
      rw [hl, List.take_length] at hys2
      exact ⟨hys2, rfl⟩
    · rintro D2 ys2 cs ⟨hys2, rfl⟩
      have hkok : ∀ x ∈ kept P h one, PyData.strOk x = true := fun x hx => by
        obtain ⟨p, hp, rfl⟩ := List.mem_map.mp hx
        obtain ⟨_, h2⟩ := List.mem_filter.mp hp
        exact hhok _ (any_mem.mp (Bool.and_eq_true_iff.mp h2).2)
      cell_end 5 0 0
      refine G_newListR (szl (by decide)) fun ea => ?_
      refine G_neD (da := strsD (kept P h one)) (db := strsD []) (raw_rx (by cell_end 7 0 0) hys2) (raw_rx (by cell_end 7 0 0) .nil) ((fine_strs hkok).shaped (k := 1) (by decide)) rfl hA.cmp ?_
      rw [eqv_strs]
      refine G_drop (G_drop ?_)
      have hq : (!(kept P h one == [])) = !(kept P h one).isEmpty := by cases kept P h one <;> rfl
      rw [hq]
      cell_end 5 0 0
      refine bif_s (fun h1 => ?_) (fun h1 => ?_)
      · cell_end 5 0 0
        refine ⟨[CEL (b.heap.objs.size + 1 + 1) (some (.ref ha)), CEL (b.heap.objs.size + 1 + 1 + 1) fo, CEL (b.heap.objs.size + 1) (some (.ref pa)), RAW ha hvs, LSX la lv (rounds.map strsD) F', RAW na nvs, LSX pa pvs (P.map pairD) F, CEL (C + 1) (some (.str one to))], ?_, _, rfl, ?_, rfl⟩
        · cell_end 9 0 0
        · rw [htk, List.filter_append, List.filter_cons_of_pos (p := fun one => !(kept P h one).isEmpty) h1, List.filter_nil]
          exact hys.append (.cons .nil)
      · refine ⟨[CEL (b.heap.objs.size + 1 + 1) (some (.ref ha)), CEL (b.heap.objs.size + 1 + 1 + 1) fo, CEL (b.heap.objs.size + 1) (some (.ref pa)), RAW ha hvs, LSX la lv (rounds.map strsD) F', RAW na nvs, LSX pa pvs (P.map pairD) F, CEL (C + 1) (some (.str one to))], ?_, _, rfl, ?_, rfl⟩
        · cell_end 9 0 0
        · rw [htk, List.filter_append, List.filter_cons_of_neg (p := fun one => !(kept P h one).isEmpty) (by rw [h1]; decide), List.filter_nil, List.append_nil]
          exact hys
  · rintro C ys vs cs ⟨ov, rfl, hys, rfl⟩
    rw [hhs.length, List.take_length] at hys
    exact ⟨hys, C + 1, ov, rfl⟩
  · rintro fa ys cs ⟨hys, C, ov, rfl⟩
    refine G_perm (cs' := [CEL C ov, CEL (b.heap.objs.size + 1 + 1 + 1) fo, RAW fa ys, CEL (b.heap.objs.size + 1 + 1) (some (.ref ha)), CEL (b.heap.objs.size + 1) (some (.ref pa)), RAW ha hvs, LSX la lv (rounds.map strsD) F', RAW na nvs, LSX pa pvs (P.map pairD) F]) (by cell_end 9 0 0) ?_
    refine G_drop ?_
    refine G_storeCell (by rfl) (by rfl) ?_
    have hfok : ∀ x ∈ farther P h, PyData.strOk x = true := fun x hx => hhok x (far_mem.mp hx).1
    have hfl : (farther P h).length ≤ h.length := List.length_filter_le ..
    cell_end 5 0 0
    refine G_eqD (da := strsD (farther P h)) (db := strsD h) (raw_rx (by cell_end 7 0 0) hys) (raw_rx (by cell_end 7 0 0) hhs) ((fine_strs hfok).shaped (k := 1) (by decide)) ((fine_strs hhok).shaped (k := 1) (by decide)) hA.cmp ?_
    rw [eqv_strs]
    cell_end 5 0 0
    refine bif_s (fun h1 => ?_) (fun h1 => ?_)
    · have hfix : farther P h = h := beq_iff_eq.mp h1
      cell_end 5 0 0
      refine G_newListR (szl (by decide)) fun ea => ?_
      refine G_neD (da := strsD h) (db := strsD []) (raw_rx (by cell_end 7 0 0) hhs) (raw_rx (by cell_end 7 0 0) .nil) ((fine_strs hhok).shaped (k := 1) (by decide)) rfl hA.cmp ?_
      rw [eqv_strs]
      have hq : (!(h == [])) = !h.isEmpty := by cases h <;> rfl
      rw [hq]
      cell_end 5 0 0
      refine G_perm (cs' := [LSX la lv (rounds.map strsD) F', RAW na nvs, LSX pa pvs (P.map pairD) F, RAW ea [], CEL (b.heap.objs.size + 1 + 1 + 1) (some (.ref fa)), RAW fa ys, CEL (b.heap.objs.size + 1 + 1) (some (.ref ha)), CEL (b.heap.objs.size + 1) (some (.ref pa)), RAW ha hvs]) (by cell_end 9 0 0) ?_
      refine G_shut ?_
      refine G_newTupD (cn := [_]) (Bears.plain (fun _ => .bool _) (Bears.dat (Bears.plain (fun _ => .bool _) Bears.nil))) (szl (Nat.le_of_ble_eq_true rfl)) fun d => ?_
      cell_end 1 0 0
      refine Thn_ret ⟨[DAT (.ref d) (goneD (!h.isEmpty) rounds) _, RAW na nvs, LSX pa pvs (P.map pairD) F], [RAW ea [], CEL (b.heap.objs.size + 1 + 1 + 1) (some (.ref fa)), RAW fa ys, CEL (b.heap.objs.size + 1 + 1) (some (.ref ha)), CEL (b.heap.objs.size + 1) (some (.ref pa)), RAW ha hvs], .refl _, d, _, h0, i, rounds, hhp, sorted_pw hhso, ⟨hgo, by rw [← hh]; exact hfix, hrl, hea⟩, rfl, by rw [← hh]⟩
    · have hne : farther P h ≠ h := fun q => by rw [q] at h1; simp at h1
      cell_end 5 0 0
      cell_end 6 0 0
      cell_end 5 0 0
      refine ⟨LSX.ty (by cell_end 7 0 0), ?_⟩
      refine G_ListComp (cl := [("farther", b.heap.objs.size + 1 + 1 + 1)]) ["one"] [] ?_ (scOk_of (by kernel_rfl!)) (by k_dflt rfl) (by k_dflt rfl) (by decide +kernel)
      cell_end 5 0 0
      refine ⟨fun zs cs => Strs zs (gone P h) ∧ cs = [CEL (b.heap.objs.size + 1 + 1 + 1) (some (.ref fa)), RAW fa ys, CEL (b.heap.objs.size + 1 + 1) (some (.ref ha)), CEL (b.heap.objs.size + 1) (some (.ref pa)), RAW ha hvs, LSX la lv (rounds.map strsD) F', RAW na nvs, LSX pa pvs (P.map pairD) F], _, _, _, fun C j zs vs cs => ∃ ov, A3 (vs = [ov]) (Strs zs ((h.take j).filter fun one => !((farther P h).any (· == one)))) (cs = [CEL (b.heap.objs.size + 1 + 1 + 1) (some (.ref fa)), RAW fa ys, CEL (b.heap.objs.size + 1 + 1) (some (.ref ha)), CEL (b.heap.objs.size + 1) (some (.ref pa)), RAW ha hvs, LSX la lv (rounds.map strsD) F', RAW na nvs, LSX pa pvs (P.map pairD) F]), ⟨Src.list hA.handled ha hvs, by rw [hhs.length]; exact szl (by omega), sitRaw (by cell_end 7 0 0), fun C => ⟨none, rfl, .nil, rfl⟩, ?_, ?_, ?_⟩, ?_⟩
      · rintro C b' j zs vs cs s - ⟨ov, rfl, _, rfl⟩ S
        exact sitRaw (by cell_end 7 0 0) s S
      · rintro C b' j v zs vs cs Y X hb hj hv ⟨ov, rfl, hzs, rfl⟩
        obtain ⟨one, to, hx, rfl⟩ := hhs.get hv
        have htk : h.take (j + 1) = h.take j ++ [one] := by rw [List.take_add_one, hx]; rfl
        refine G_sub (cs' := [CEL (b.heap.objs.size + 1 + 1 + 1) (some (.ref fa)), RAW fa ys, CEL (b.heap.objs.size + 1 + 1) (some (.ref ha)), CEL (b.heap.objs.size + 1) (some (.ref pa)), RAW ha hvs, LSX la lv (rounds.map strsD) F', RAW na nvs, LSX pa pvs (P.map pairD) F, Y, X]) (.refl _) ?_
        cell_end 5 0 0
        refine G_notInL (sitRaw (by cell_end 7 0 0)) hys ?_
        cell_end 5 0 0
        refine bif_s (fun h2 => ?_) (fun h2 => ?_)
        · cell_end 5 0 0
          refine ⟨[CEL (b.heap.objs.size + 1 + 1 + 1) (some (.ref fa)), RAW fa ys, CEL (b.heap.objs.size + 1 + 1) (some (.ref ha)), CEL (b.heap.objs.size + 1) (some (.ref pa)), RAW ha hvs, LSX la lv (rounds.map strsD) F', RAW na nvs, LSX pa pvs (P.map pairD) F], .refl _, _, rfl, ?_, rfl⟩
          rw [htk, List.filter_append, List.filter_cons_of_pos (p := fun one => !((farther P h).any (· == one))) h2, List.filter_nil]
          exact hzs.append (.cons .nil)
        · refine ⟨[CEL (b.heap.objs.size + 1 + 1 + 1) (some (.ref fa)), RAW fa ys, CEL (b.heap.objs.size + 1 + 1) (some (.ref ha)), CEL (b.heap.objs.size + 1) (some (.ref pa)), RAW ha hvs, LSX la lv (rounds.map strsD) F', RAW na nvs, LSX pa pvs (P.map pairD) F], .refl _, _, rfl, ?_, rfl⟩
          rw [htk, List.filter_append, List.filter_cons_of_neg (p := fun one => !((farther P h).any (· == one))) (by rw [h2]; decide), List.filter_nil, List.append_nil]
          exact hzs
      · rintro C zs vs cs ⟨ov, rfl, hzs, rfl⟩
        rw [hhs.length, List.take_length] at hzs
        exact ⟨hzs, rfl⟩
      · rintro ga zs cs ⟨hzs, rfl⟩
        cell_end 5 0 0
        refine G_raw0 (ds := (gone P h).map .str) (fun _ => hzs.rx) ?_
        refine G_shut ?_
        refine G_perm (cs' := [LSX la lv (rounds.map strsD) F', DAT (.ref ga) (.list ((gone P h).map .str)) [ga], CEL (b.heap.objs.size + 1 + 1 + 1) (some (.ref fa)), RAW fa ys, CEL (b.heap.objs.size + 1 + 1) (some (.ref ha)), CEL (b.heap.objs.size + 1) (some (.ref pa)), RAW ha hvs, RAW na nvs, LSX pa pvs (P.map pairD) F]) (by cell_end 9 0 0) ?_
        have hlen := left_len (P := P) (h := h0) (n := i) hgo
        refine G_append_own (szl (by rw [List.length_map]; omega)) ?_
        refine ⟨fun _ q => (nomatch q), ?_⟩
        cell_end 1 0 0
        cell_end 1 0 0
        refine G_AssignC ?_ (by rfl)
        cell_end 5 0 0
        refine G_perm (cs' := [CEL (b.heap.objs.size + 1 + 1) (some (.ref ha)), RAW ha hvs, CEL (b.heap.objs.size + 1 + 1 + 1) (some (.ref fa)), CEL (b.heap.objs.size + 1) (some (.ref pa)), RAW fa ys, LSX la (lv ++ [.ref ga]) (rounds.map strsD ++ [.list ((gone P h).map .str)]) (F' ++ [ga]), RAW na nvs, LSX pa pvs (P.map pairD) F]) (by cell_end 9 0 0) ?_
        refine G_storeCell (by rfl) (by rfl) ?_
        cell_end 1 0 0
        refine G_p1 (G_drop ?_)
        cell_end 5 0 0
        refine ⟨(farther P h).length, Nat.lt_of_le_of_ne hfl fun q => hne ((List.filter_sublist ..).eq_of_length q), i + 1, farther P h, fa, ys, some (.ref fa), rounds ++ [gone P h], lv ++ [.ref ga], F' ++ [ga], rfl, by rw [hh]; rfl, hys, fun j hj => ?_, by rw [List.length_append, hrl]; rfl, fun j r hj => ?_, rfl, ?_⟩
        · rcases Nat.lt_succ_iff_lt_or_eq.mp hj with q | q
          · exact hgo j q
          · rw [q, ← hh]; exact hne
        · by_cases q : j < rounds.length
          · rw [List.getElem?_append_left q] at hj
            exact hea j r hj
          · rw [List.getElem?_append_right (by omega)] at hj
            have q1 : j = rounds.length := by
              cases q2 : j - rounds.length with
              | zero => omega
              | succ m => rw [q2] at hj; cases hj
            rw [q1, Nat.sub_self] at hj
            cases hj
            rw [q1, hrl, ← hh]
            refine ⟨?_, .refl _⟩
            have hs : h.Pairwise LeS := by rw [hh]; exact left_sorted (sorted_pw hhso) i
            exact hs.sublist (List.filter_sublist ..)
        · rw [List.map_append]; rfl
end
end
section
open PySem PySem.W PyProof.Rows PySem.Calls
section
theorem find_app {g : Gr} {k j : Str} : (g ++ [(k, 0, [])] : Gr).find? (fun n => decide (n.1 = j)) = (g.find? fun n => decide (n.1 = j)).or (if k = j then some (k, 0, []) else none) := by
  rw [List.find?_append]
  congr 1
  by_cases h : k = j
  · rw [List.find?_cons_of_pos (by simpa using h), if_pos h]
  · rw [List.find?_cons_of_neg (by simpa using h), if_neg h]; rfl
theorem np_get (g : Gr) (k j : Str) : npOf (gGet g k) j = npOf g j := by
  unfold gGet
  split
  · rfl
  · unfold npOf
    rw [find_app]
    cases g.find? (fun n => decide (n.1 = j)) with
    | some n => rfl
    | none => by_cases h : k = j <;> simp [h]
theorem su_get (g : Gr) (k j : Str) : suOf (gGet g k) j = suOf g j := by
  unfold gGet
  split
  · rfl
  · unfold suOf
    rw [find_app]
    cases g.find? (fun n => decide (n.1 = j)) with
    | some n => rfl
    | none => by_cases h : k = j <;> simp [h]
theorem keys_get (g : Gr) (k j : Str) : j ∈ keysOf (gGet g k) ↔ j ∈ keysOf g ∨ j = k := by
  unfold gGet
  split
  · rename_i h
    exact ⟨.inl, fun q => q.elim id fun e => e ▸ h⟩
  · simp [keysOf]
theorem np_push (g : Gr) (k v j : Str) : npOf (gPush g k v) j = npOf g j := by
  unfold npOf gPush
  rw [find_mapAt]
  cases g.find? (fun n => decide (n.1 = j)) with
  | none => rfl
  | some n =>
    show ((some (if n.1 = k then _ else n)).map _).getD 0 = _
    split <;> rfl
theorem su_push {g : Gr} {k : Str} (hk : k ∈ keysOf g) (v j : Str) : suOf (gPush g k v) j = suOf g j ++ (if j = k then [v] else []) := by
  unfold suOf gPush
  rw [find_mapAt]
  by_cases h : j = k
  · subst h
    obtain ⟨n, hn⟩ := find_some hk
    rw [hn, if_pos rfl]
    show ((some (if n.1 = j then _ else n)).map _).getD [] = _
    rw [if_pos (find_key hn)]; rfl
  · rw [if_neg h, List.append_nil]
    cases hf : g.find? (fun n => decide (n.1 = j)) with
    | none => rfl
    | some n =>
      show ((some (if n.1 = k then _ else n)).map _).getD [] = _
      rw [if_neg (fun q => h (by rw [← find_key hf]; exact q))]
theorem push_keys (g : Gr) (k v : Str) : keysOf (gPush g k v) = keysOf g := mapAt_keys ..
theorem add0_np (g : Gr) (a j : Str) : npOf (gAdd g a []) j = npOf g j := by
  show npOf (gBump (gGet g a) a ((0 : Nat) : Int)) j = _
  rw [np_bump ((keys_get g a a).mpr (.inr rfl)), np_get, np_get]
  split
  · rename_i h; subst h; simp
  · rfl
theorem add0_su (g : Gr) (a j : Str) : suOf (gAdd g a []) j = suOf g j := by
  show suOf (gBump (gGet g a) a ((0 : Nat) : Int)) j = _
  rw [su_bump, su_get]
theorem add0_keys (g : Gr) (a j : Str) : j ∈ keysOf (gAdd g a []) ↔ j ∈ keysOf g ∨ j = a := by
  show j ∈ keysOf (gBump (gGet g a) a ((0 : Nat) : Int)) ↔ _
  rw [bump_keys, keys_get]
theorem add1_eq (g : Gr) (a b : Str) : gAdd g a [b] = gPush (gGet (gBump (gGet g a) a ((1 : Nat) : Int)) b) b a := rfl
theorem add1_np (g : Gr) (a b j : Str) : npOf (gAdd g a [b]) j = npOf g j + (if a = j then 1 else 0) := by
  rw [add1_eq, np_push, np_get, np_bump ((keys_get g a a).mpr (.inr rfl)), np_get, np_get]
  by_cases h : j = a
  · subst h; simp
  · rw [if_neg h, if_neg (fun q => h q.symm), Int.add_zero]
theorem add1_su (g : Gr) (a b j : Str) : suOf (gAdd g a [b]) j = suOf g j ++ (if j = b then [a] else []) := by
  rw [add1_eq, su_push ((keys_get _ b b).mpr (.inr rfl)), su_get, su_bump, su_get]
theorem add1_keys (g : Gr) (a b j : Str) : j ∈ keysOf (gAdd g a [b]) ↔ j ∈ keysOf g ∨ j = a ∨ j = b := by
  rw [add1_eq, push_keys, keys_get, bump_keys, keys_get, or_assoc]
noncomputable def bld0 (N0 : List Str) : Gr := N0.foldl (fun g k => gAdd g k []) []
noncomputable def bld (N0 : List Str) (P : Prs) : Gr := P.foldl (fun g p => gAdd g p.1 [p.2]) (bld0 N0)
theorem names_np : ∀ (N0 : List Str) (g : Gr) (j : Str), npOf (N0.foldl (fun g k => gAdd g k []) g) j = npOf g j ∧ suOf (N0.foldl (fun g k => gAdd g k []) g) j = suOf g j ∧ (j ∈ keysOf (N0.foldl (fun g k => gAdd g k []) g) ↔ j ∈ keysOf g ∨ j ∈ N0)
  | [], g, j => ⟨rfl, rfl, by simp⟩
  | k :: N0, g, j => by
    obtain ⟨h1, h2, h3⟩ := names_np N0 (gAdd g k []) j
    rw [List.foldl_cons]
    refine ⟨h1.trans (add0_np ..), h2.trans (add0_su ..), h3.trans ?_⟩
    rw [add0_keys, List.mem_cons, or_assoc]
theorem pairs_np : ∀ (P : Prs) (g : Gr) (j : Str), npOf (P.foldl (fun g p => gAdd g p.1 [p.2]) g) j = npOf g j + (P.countP fun p => p.1 == j) ∧ suOf (P.foldl (fun g p => gAdd g p.1 [p.2]) g) j = suOf g j ++ sus P j ∧ (j ∈ keysOf (P.foldl (fun g p => gAdd g p.1 [p.2]) g) ↔ j ∈ keysOf g ∨ ∃ p ∈ P, j = p.1 ∨ j = p.2)
  | [], g, j => ⟨by simp, by simp [sus], by simp⟩
  | p :: P, g, j => by
    obtain ⟨h1, h2, h3⟩ := pairs_np P (gAdd g p.1 [p.2]) j
    rw [List.foldl_cons]
    refine ⟨?_, ?_, ?_⟩
    · rw [h1, add1_np, List.countP_cons]
      by_cases q : p.1 = j
      · simp only [q, if_true, beq_self_eq_true]; omega
      · rw [if_neg q, if_neg (by simpa using q)]; omega
    · rw [h2, add1_su]
      unfold sus
      rw [List.filter_cons, List.append_assoc]
      congr 1
      by_cases q : j = p.2
      · rw [if_pos q, if_pos (by simpa using q.symm)]; rfl
      · rw [if_neg q, if_neg (by simpa using fun z => q z.symm)]; rfl
    · rw [h3, add1_keys]
      constructor
      · rintro ((q | q) | ⟨p', hp, q⟩)
        · exact .inl q
        · exact .inr ⟨p, .head _, q⟩
        · exact .inr ⟨p', .tail _ hp, q⟩
      · rintro (q | ⟨p', hp, q⟩)
        · exact .inl (.inl q)
        · cases hp with
          | head => exact .inl (.inr q)
          | tail _ hp => exact .inr ⟨p', hp, q⟩
theorem bld_facts (N0 : List Str) (P : Prs) (j : Str) : npOf (bld N0 P) j = (P.countP fun p => p.1 == j : Nat) ∧ suOf (bld N0 P) j = sus P j ∧ (j ∈ keysOf (bld N0 P) ↔ j ∈ N0 ∨ ∃ p ∈ P, j = p.1 ∨ j = p.2) := by
  obtain ⟨a1, a2, a3⟩ := names_np N0 [] j
  obtain ⟨b1, b2, b3⟩ := pairs_np P (bld0 N0) j
  refine ⟨?_, ?_, ?_⟩
  · refine b1.trans ?_
    unfold bld0
    rw [a1]
    show (0 : Int) + _ = _
    omega
  · refine b2.trans ?_
    unfold bld0
    rw [a2]; rfl
  · refine b3.trans ?_
    unfold bld0
    rw [a3]
    simp [keysOf]
theorem bld_inv {N0 : List Str} {P : Prs} (nd : (keysOf (bld N0 P)).Nodup) : Inv P (keysOf (bld N0 P)) (bld N0 P) (readyOf (bld N0 P)) := by
  have he : ∀ p ∈ P, p.1 ∈ keysOf (bld N0 P) ∧ p.2 ∈ keysOf (bld N0 P) := fun p hp => ⟨(bld_facts N0 P p.1).2.2.mpr (.inr ⟨p, hp, .inl rfl⟩), (bld_facts N0 P p.2).2.2.mpr (.inr ⟨p, hp, .inr rfl⟩)⟩
  have hnp : ∀ k, npOf (bld N0 P) k = cnp P (keysOf (bld N0 P)) k := fun k => by
    rw [(bld_facts N0 P k).1]
    congr 1
    unfold cnp
    refine List.countP_congr fun p hp => ?_
    unfold pin
    rw [any_mem.mpr (he p hp).2, Bool.and_true]
  refine ⟨nd, fun _ h => h, fun p hp _ => (he p hp).1, fun k => (bld_facts N0 P k).2.1, he, fun k _ => hnp k, ?_, fun k => ?_⟩
  · exact nd.sublist (List.Sublist.map _ (List.filter_sublist ..))
  · unfold readyOf
    rw [List.mem_map]
    constructor
    · rintro ⟨n, hn, rfl⟩
      obtain ⟨h1, h2⟩ := List.mem_filter.mp hn
      have h3 : npOf (bld N0 P) n.1 = n.2.1 := np_mem nd (np := n.2.1) (su := n.2.2) h1
      rw [hnp, beq_iff_eq.mp h2] at h3
      exact ⟨List.mem_map.mpr ⟨n, h1, rfl⟩, by omega⟩
    · rintro ⟨h1, h2⟩
      obtain ⟨n, hn, rfl⟩ := List.mem_map.mp h1
      have h3 : npOf (bld N0 P) n.1 = n.2.1 := np_mem nd (np := n.2.1) (su := n.2.2) hn
      rw [hnp, h2] at h3
      exact ⟨n, List.mem_filter.mpr ⟨hn, beq_iff_eq.mpr h3.symm⟩, rfl⟩
/-- each text once -/
noncomputable def dedup (l : List Str) : List Str := l.foldl (fun acc x => if acc.any (· == x) then acc else acc ++ [x]) []
theorem dedup_snoc (l : List Str) (x : Str) : dedup (l ++ [x]) = if (dedup l).any (· == x) then dedup l else dedup l ++ [x] := List.foldl_append ..
theorem dedup_facts : ∀ (l acc : List Str), acc.Nodup → (l.foldl (fun acc x => if acc.any (· == x) then acc else acc ++ [x]) acc).Nodup ∧ (∀ k, k ∈ l.foldl (fun acc x => if acc.any (· == x) then acc else acc ++ [x]) acc ↔ k ∈ acc ∨ k ∈ l) ∧ (l.foldl (fun acc x => if acc.any (· == x) then acc else acc ++ [x]) acc).length ≤ acc.length + l.length
  | [], acc, nd => ⟨nd, fun k => by simp, Nat.le_refl _⟩
  | x :: l, acc, nd => by
    rw [List.foldl_cons]
    by_cases h : acc.any (· == x) = true
    · rw [if_pos h]
      obtain ⟨a, b, c⟩ := dedup_facts l acc nd
      refine ⟨a, fun k => (b k).trans ?_, by simp only [List.length_cons]; omega⟩
      rw [List.mem_cons]
      exact ⟨fun q => q.imp id .inr, fun q => q.elim .inl fun q => q.elim (fun e => .inl (e ▸ any_mem.mp h)) .inr⟩
    · rw [if_neg h]
      have hx : x ∉ acc := fun q => h (any_mem.mpr q)
      obtain ⟨a, b, c⟩ := dedup_facts l (acc ++ [x]) (List.nodup_append.mpr ⟨nd, by simp, fun y hy z hz q => by cases List.mem_singleton.mp hz; exact hx (q ▸ hy)⟩)
      refine ⟨a, fun k => (b k).trans ?_, by simp only [List.length_append, List.length_cons, List.length_nil] at c ⊢; omega⟩
      rw [List.mem_append, List.mem_singleton, List.mem_cons, or_assoc]
theorem dedup_nd (l : List Str) : (dedup l).Nodup := (dedup_facts l [] .nil).1
theorem dedup_mem (l : List Str) (k : Str) : k ∈ dedup l ↔ k ∈ l := by
  have := (dedup_facts l [] .nil).2.1 k
  simpa [dedup] using this
theorem dedup_len (l : List Str) : (dedup l).length ≤ l.length := by
  have := (dedup_facts l [] .nil).2.2
  simpa [dedup] using this
theorem dedup_any (l : List Str) (x : Str) : (dedup l).any (· == x) = l.any (· == x) := by
  rw [Bool.eq_iff_iff, any_mem, any_mem, dedup_mem]
/-- all names -/
noncomputable def allNames (N0 : List Str) (P : Prs) : List Str := P.foldl (fun l p => l ++ [p.1, p.2]) N0
theorem allNames_snoc (N0 : List Str) (P : Prs) (p : Str × Str) : allNames N0 (P ++ [p]) = allNames N0 P ++ [p.1, p.2] := List.foldl_append ..
theorem allNames_mem : ∀ (P : Prs) (N0 : List Str) (k : Str), (k ∈ allNames N0 P ↔ k ∈ N0 ∨ ∃ p ∈ P, k = p.1 ∨ k = p.2) ∧ (allNames N0 P).length = N0.length + 2 * P.length
  | [], N0, k => ⟨by simp [allNames], rfl⟩
  | p :: P, N0, k => by
    obtain ⟨h1, h2⟩ := allNames_mem P (N0 ++ [p.1, p.2]) k
    refine ⟨h1.trans ?_, h2.trans ?_⟩
    · constructor
      · rintro (q | ⟨p', hp, q⟩)
        · rcases List.mem_append.mp q with q | q
          · exact .inl q
          · refine .inr ⟨p, .head _, ?_⟩
            rcases List.mem_cons.mp q with q | q
            · exact .inl q
            · exact .inr (List.mem_singleton.mp q)
        · exact .inr ⟨p', .tail _ hp, q⟩
      · rintro (q | ⟨p', hp, q⟩)
        · exact .inl (List.mem_append_left _ q)
        · cases hp with
          | head => exact .inl (List.mem_append_right _ (q.elim (fun e => by rw [e]; exact .head _) fun e => by rw [e]; exact .tail _ (.head _)))
          | tail _ hp => exact .inr ⟨p', hp, q⟩
    · simp only [List.length_append, List.length_cons, List.length_nil]; omega
noncomputable def swp (P : Prs) : Prs := P.map fun p => (p.2, p.1)
theorem bld_keys (N0 : List Str) (P : Prs) (nd : (keysOf (bld N0 P)).Nodup) : (dedup (allNames N0 P)).Perm (keysOf (bld N0 P)) := perm_of_mem (dedup_nd _) nd fun k => by
  rw [dedup_mem, (allNames_mem P N0 k).1, (bld_facts N0 P k).2.2]
theorem swp_keys (N0 : List Str) (P : Prs) (nd : (keysOf (bld N0 (swp P))).Nodup) : (dedup (allNames N0 P)).Perm (keysOf (bld N0 (swp P))) := perm_of_mem (dedup_nd _) nd fun k => by
  rw [dedup_mem, (allNames_mem P N0 k).1, (bld_facts N0 (swp P) k).2.2]
  refine or_congr_right ?_
  unfold swp
  constructor
  · rintro ⟨p, hp, q⟩; exact ⟨(p.2, p.1), List.mem_map.mpr ⟨p, hp, rfl⟩, q.symm⟩
  · rintro ⟨p, hp, q⟩
    obtain ⟨p', hp', rfl⟩ := List.mem_map.mp hp
    exact ⟨p', hp', q.symm⟩
/-- the name that is left of a row -/
noncomputable def restT (row : List Str) : Str := Txt.join "'" (restOf row)
noncomputable abbrev restsOf (R : List (List Str)) : List Str := R.map restT
noncomputable abbrev prsOf (R : List (List Str)) : Prs := R.flatMap pairsOf
theorem rowStep_total : ∀ (ns : List Int) (p : List (List Str) × List Str), (ns.foldl rowStep p).1.flatten.length + (ns.foldl rowStep p).2.length = p.1.flatten.length + p.2.length + ns.length
  | [], p => rfl
  | x :: ns, p => by
    rw [List.foldl_cons, rowStep_total ns]
    unfold rowStep
    split
    · simp only [List.flatten_append, List.length_append, List.flatten_cons, List.flatten_nil, List.length_cons, List.length_nil, List.append_nil]; omega
    · simp only [List.length_append, List.length_cons, List.length_nil]; omega
theorem flat_filter (l : List (List Str)) : (l.filter fun r => !r.isEmpty).flatten.length ≤ l.flatten.length := by
  induction l with
  | nil => exact Nat.le_refl _
  | cons r l ih =>
    rw [List.filter_cons]
    split
    · simp only [List.flatten_cons, List.length_append]; omega
    · simp only [List.flatten_cons, List.length_append]; omega
theorem rows_total (script : List Int) : (rowsOf script).flatten.length ≤ 14 := by
  unfold rowsOf
  refine Nat.le_trans (flat_filter _) ?_
  have := rowStep_total (script.take 14) ([], [])
  have hl : (script.take 14).length ≤ 14 := List.length_take_le ..
  simp only [List.flatten_append, List.length_append, List.flatten_cons, List.flatten_nil, List.append_nil]
  unfold rowsAll
  simp only [List.flatten_nil, List.length_nil] at this
  omega
structure RowsOk (R : List (List Str)) : Prop where
  six : ∀ r ∈ R, InSix r ∧ r.length ≤ 14 ∧ r ≠ []
  total : R.flatten.length ≤ 14
theorem rows_ok (script : List Int) : RowsOk (rowsOf script) := ⟨fun r hr => by
  obtain ⟨h1, h2⟩ := List.mem_filter.mp hr
  obtain ⟨h3, h4⟩ := rows_rowOk script r h1
  exact ⟨h3, h4, fun q => by rw [q] at h2; cases h2⟩, rows_total script⟩
theorem names_total : ∀ {R : List (List Str)}, (∀ r ∈ R, r ≠ []) → R.length + 2 * (prsOf R).length ≤ R.flatten.length
  | [], _ => Nat.le_refl _
  | r :: R, h => by
    have ih := names_total (R := R) fun r hr => h r (.tail _ hr)
    have h1 := pairs_count r
    have h2 : 1 ≤ r.length := Nat.pos_of_ne_zero fun q => h r (.head _) (List.length_eq_zero_iff.mp q)
    show (r :: R).length + 2 * ((pairsOf r ++ prsOf R).length) ≤ (r ++ R.flatten).length
    simp only [List.length_cons, List.length_append]
    omega
theorem RowsOk.len {R : List (List Str)} (h : RowsOk R) : R.length ≤ 14 ∧ (prsOf R).length ≤ 7 ∧ (allNames (restsOf R) (prsOf R)).length ≤ 14 := by
  have h1 := names_total fun r hr => (h.six r hr).2.2
  have h2 := h.total
  have h3 := (allNames_mem (prsOf R) (restsOf R) "").2
  rw [List.length_map] at h3
  refine ⟨by omega, by omega, by omega⟩
theorem pairs_sub : ∀ (row : List Str) (p : Str × Str), p ∈ pairsOf row → p.1 ∈ row ∧ p.2 ∈ row
  | [], p, h => by cases h
  | [_], p, h => by cases h
  | [_, _], p, h => by cases h
  | a :: b :: c :: r, p, h => by
    cases h with
    | head => exact ⟨.head _, .tail _ (.head _)⟩
    | tail _ h =>
      obtain ⟨h1, h2⟩ := pairs_sub (c :: r) p h
      exact ⟨.tail _ (.tail _ h1), .tail _ (.tail _ h2)⟩
theorem rest_cases : ∀ row : List Str, InSix row → restOf row = [] ∨ (∃ a ∈ sixN, restOf row = [a]) ∨ ∃ a ∈ sixN, ∃ b ∈ sixN, restOf row = [a, b]
  | [], _ => .inl rfl
  | [a], h => .inr (.inl ⟨a, h a (.head _), rfl⟩)
  | [a, b], h => .inr (.inr ⟨a, h a (.head _), b, h b (.tail _ (.head _)), rfl⟩)
  | a :: b :: c :: r, h => rest_cases (c :: r) fun y hy => h y (.tail _ (.tail _ hy))
theorem rest_fine {row : List Str} (h : InSix row) : PyData.strOk (restT row) = true := by
  have h0 : PyData.strOk (Txt.join "'" []) = true := by decide +kernel
  have h1 : ∀ a ∈ sixN, PyData.strOk (Txt.join "'" [a]) = true := by decide +kernel
  have h2 : ∀ a ∈ sixN, ∀ b ∈ sixN, PyData.strOk (Txt.join "'" [a, b]) = true := by decide +kernel
  unfold restT
  rcases rest_cases row h with q | ⟨a, ha, q⟩ | ⟨a, ha, b, hb, q⟩
  · rw [q]; exact h0
  · rw [q]; exact h1 a ha
  · rw [q]; exact h2 a ha b hb
theorem RowsOk.fine {R : List (List Str)} (h : RowsOk R) : ∀ x ∈ allNames (restsOf R) (prsOf R), PyData.strOk x = true := fun x hx => by
  rcases (allNames_mem (prsOf R) (restsOf R) x).1.mp hx with q | ⟨p, hp, q⟩
  · obtain ⟨r, hr, rfl⟩ := List.mem_map.mp q
    exact rest_fine (h.six r hr).1
  · obtain ⟨r, hr, hp⟩ := List.mem_flatMap.mp hp
    obtain ⟨h1, h2⟩ := pairs_sub r p hp
    rcases q with q | q
    · rw [q]; exact six_fine ((h.six r hr).1 _ h1)
    · rw [q]; exact six_fine ((h.six r hr).1 _ h2)
theorem strOk_iff {x : Str} : PyData.strOk x = true ↔ ∀ c ∈ sg x, c < 0x110000 := by
  unfold PyData.strOk sg
  rw [Array.all_eq_true_iff_forall_mem]
  exact ⟨fun h c hc => of_decide_eq_true (h c (by simpa using hc)), fun h c hc => decide_eq_true (h c (by simpa using hc))⟩
theorem join_fine {r : List Str} (h : ∀ x ∈ r, PyData.strOk x = true) : PyData.strOk (Txt.join "'" r) = true := by
  have e : ∀ r : List Str, (∀ x ∈ r, PyData.strOk x = true) → ∀ c ∈ jn (sg "'") (r.map sg), c < 0x110000 := by
    intro r
    induction r with
    | nil => intro _ c hc; cases hc
    | cons a r ih =>
      intro h c hc
      cases r with
      | nil => exact strOk_iff.mp (h a (.head _)) c hc
      | cons b r =>
        have hc : c ∈ sg a ++ sg "'" ++ jn (sg "'") ((b :: r).map sg) := hc
        rcases List.mem_append.mp hc with hc | hc
        · rcases List.mem_append.mp hc with hc | hc
          · exact strOk_iff.mp (h a (.head _)) c hc
          · have q : ∀ c ∈ sg "'", c < 0x110000 := by decide +kernel
            exact q c hc
        · exact ih (fun x hx => h x (.tail _ hx)) c hc
  rw [strOk_iff, sg_join]
  exact e r h
theorem due_fine {row : List Str} (h : InSix row) : Fine 3 (dueD row) := by
  refine Fine.tuple fun d hd => ?_
  rcases List.mem_cons.mp hd with rfl | hd
  · refine Fine.list fun d hd => ?_
    obtain ⟨p, hp, rfl⟩ := List.mem_map.mp hd
    obtain ⟨h1, h2⟩ := pairs_sub row p hp
    refine Fine.tuple (k := 0) fun d hd => ?_
    rcases List.mem_cons.mp hd with rfl | hd
    · exact Fine.str (six_fine (h _ h1))
    · cases List.mem_singleton.mp hd; exact Fine.str (six_fine (h _ h2))
  · cases List.mem_singleton.mp hd
    refine Fine.le (k := 1) (Fine.tuple fun d hd => ?_) (by decide)
    rcases List.mem_cons.mp hd with rfl | hd
    · exact Fine.none
    · rcases List.mem_cons.mp hd with rfl | hd
      · exact Fine.none
      · cases List.mem_singleton.mp hd; exact Fine.str (rest_fine h)
theorem range_one (n : Nat) : (Builtin.Range.rangeSize 0 (n : Int) 1).toNat = n := by
  unfold Builtin.Range.rangeSize
  simp only [show (1 : Int) > 0 by decide, if_true]
  split <;> omega
theorem small_one {n : Nat} (h : n ≤ 64) : Builtin.Range.small 0 (n : Int) 1 = true := by
  have : ∀ n : Fin 65, Builtin.Range.small 0 ((n.val : Nat) : Int) 1 = true := by decide +kernel
  exact this ⟨n, by omega⟩
end
end
section
open PySem PySem.W PyProof.Rows PySem.Calls
section
theorem sp_mkTS (w : World) : Spec w (KT w) 2 (.ref 167) ⟨[], []⟩ (fun _ => True) [] (fun v cs => E2 fun x dx => v = .ref x ∧ ∃ D, SRT w x dx D .none 0 0 [] 0 cs) := fun gp =>
  SpecP.make (ks := ksTS) (nv := 4) (Post := fun x dx cs => ∃ D, SRT w x dx D .none 0 0 [] 0 cs) (by kernel_rfl!) (fI := 103) (by kernel_rfl!) (by kernel_rfl!) (by decide) (fun _ _ _ _ => trivial) fun x dx => (sp_tsInit w x dx gp).conv fun v cs h p ok ap => by
    obtain ⟨rfl, D, t1, t2, rfl⟩ := p
    exact ⟨_, ⟨rfl, D, [], t1, t2, ⟨.nil, .nil, Nat.le_refl _, fun n q => (nomatch q)⟩, rfl⟩, ok, ap, fun _ q => q⟩
section
variable {α : Type} {w : World} {A : Around} {fm : Fm} {vs : Vals} {cs : List HP} {E : Value → Vals → List HP → Prop}
theorem G_joinS {a : Addr} {xs : List Str} {x : Str} {t : Tok} {Q : Value → Vals → List HP → Prop} (hl : ∀ s, Sit fm vs cs s → ∃ ys, s.heap.IsList a (List.toArray ys) ∧ Strs ys xs) (hok : (xs.map (·.length)).sum + xs.length * x.length ≤ 16777216) (h : ∀ t, Q (.str (Txt.join x xs) t) vs cs) :
    G w A fm (call (.builtin "str.join") [.str x t, .ref a]) Q E vs cs := fun s S => by
  obtain ⟨ys, h1, h2⟩ := hl s S
  exact join_list h1 h2.are hok fun t' k => ⟨vs, cs, S.toks k, h t'⟩
theorem G_itemTs {value slice : Expr} {a : Addr} {k : Int} {t : Tok} {Q : Value → Vals → List HP → Prop} (h0 : -(2 ^ 63) ≤ k) (hfit : k < 2 ^ 63) (h : ∀ s, Sit fm vs cs s → ∃ xs j v, s.heap.IsTuple a (List.toArray xs) ∧ seqIndex? k xs.length = some j ∧ xs[j]? = some v ∧ Q v vs cs)
    (hs : subscripted slice false (.ref a) (.int k t) = operate [.ref a, .int k t] (getItem (.ref a) (.int k t)) := by with_unfolding_all rfl) : G w A fm (subscriptTail value slice (.ref a) (.int k t)) Q E vs cs := fun s S => by
  obtain ⟨xs, j, v, h1, h2, h3, h4⟩ := h s S
  exact item_tupleT h1 h0 hfit h2 h3 ⟨vs, cs, S, h4⟩ hs
theorem G_extendR {a b : Addr} {xs ys : List Value} {Q : Value → Vals → List HP → Prop} (hb : ∀ s, Sit fm vs (RAW a xs :: cs) s → (RAW b ys).ok s.heap) (hsz : xs.length + ys.length ≤ sizeLine) (h : Q .none vs (RAW a (xs ++ ys) :: cs)) : G w A fm (call (.builtin "list.extend") [.ref a, .ref b]) Q E vs (RAW a xs :: cs) := fun s S => by
  obtain ⟨_, e1, n, rfl⟩ := (S.own _ (.head _)).1
  obtain ⟨_, e2, n2, rfl⟩ := hb s S
  have hsz' : xs.toArray.size + ys.toArray.size ≤ sizeLine := by rw [List.size_toArray, List.size_toArray]; exact hsz
  refine call_meets PySem.F.slot_list_extend ⟨_, e1, rfl⟩ PySem.F.entry_list_extend (PySem.F.args_list_extend_2 _ _) (AutoSeq1.list_extend_list_list_0 a xs.toArray n b ys.toArray n2 (extend_door hsz') (Nat.le_trans (Nat.le_add_right _ _) hsz') (Nat.le_succ_of_le hsz')) ⟨e1, e2, ?_⟩
  have e : xs.toArray ++ ys.toArray = (xs ++ ys).toArray := by simp
  have ho' : (s.heap.update a (Obj.mapSeq fun x => x ++ ys.toArray)).get? a = some (listO (xs ++ ys) (if (xs.toArray ++ ys.toArray).size == xs.toArray.size then n else n + 1)) := by
    rw [Heap.get?_update_self _ e1 (by rw [mapSeq_app]; rfl), mapSeq_app, e]
  exact ⟨vs, _, S.upd (c' := RAW a (xs ++ ys)) (t := s.toks) (.head _) (Heap.SameBut.update ..) (fun _ q => q) ⟨_, ho', _, rfl⟩, h⟩
theorem G_allApp {t : Sem α} {Q : α → Vals → List HP → Prop} {xs ys : List Value} {ds es : List PyData} {F H : List Addr} (h : G w A fm t Q E vs (ALL (xs ++ ys) (ds ++ es) (F ++ H) :: cs)) : G w A fm t Q E vs (ALL xs ds F :: ALL ys es H :: cs) := fun s S => by
  have T : Stp fm.gp (feet [ALL xs ds F, ALL ys es H]) fm.fr [ALL (xs ++ ys) (ds ++ es) (F ++ H)] s s := by
    obtain ⟨⟨n1, r1⟩, _, _⟩ := S.own _ (.head _)
    obtain ⟨⟨n2, r2⟩, _, _⟩ := S.own _ (.tail _ (.head _))
    refine ⟨id, rfl, fun _ _ e _ _ => e, fun _ o e _ _ => ⟨o.slots, e⟩, one_mem ⟨⟨List.nodup_append.mpr ⟨n1, n2, fun x hx y hy q => ?_⟩, r1.append r2⟩, fun x hx => .inl ?_⟩, List.pairwise_singleton _ _⟩
    · exact (List.pairwise_cons.mp S.apart).1 _ (.head _) x hx (q ▸ hy)
    · rcases List.mem_append.mp hx with q | q
      · exact mem_feet.mpr ⟨_, .head _, q⟩
      · exact mem_feet.mpr ⟨_, .tail _ (.head _), q⟩
  exact h s (Sit.call (cs₀ := [_, _]) S T)
/-- a tuple of two is opened -/
theorem G_openT2 {t : Sem α} {Q : α → Vals → List HP → Prop} {v : Value} {d1 d2 : PyData} {F : List Addr} (h : ∀ a x1 x2 F1 F2, v = .ref a → G w A fm t Q E vs (TUP a [x1, x2] :: DAT x1 d1 F1 :: DAT x2 d2 F2 :: cs)) : G w A fm t Q E vs (DAT v (.tuple [d1, d2]) F :: cs) := fun s S => by
  obtain ⟨n, r⟩ := (S.own _ (.head _)).1
  cases r with
  | @tuple a xs k _ F0 e r =>
    cases r with
    | @cons F1 H1 x1 _ _ _ r1 r2 =>
      cases r2 with
      | @cons F2 H2 x2 _ _ _ r3 r4 =>
        cases r4
        rw [List.append_nil] at n
        obtain ⟨n0, n1⟩ := List.nodup_cons.mp n
        obtain ⟨n2, n3, n4⟩ := List.nodup_append.mp n1
        refine h a x1 x2 F1 F2 rfl s (Sit.call (cs₀ := [DAT (.ref a) (.tuple [d1, d2]) (a :: (F1 ++ (F2 ++ [])))]) (cs₁ := [TUP a [x1, x2], DAT x1 d1 F1, DAT x2 d2 F2]) S ⟨id, rfl, fun _ _ e _ _ => e, fun _ o e _ _ => ⟨o.slots, e⟩, fun c hc => ?_, ?_⟩)
        · have hin : ∀ x, x ∈ a :: (F1 ++ F2) → x ∈ feet [DAT (.ref a) (.tuple [d1, d2]) (a :: (F1 ++ (F2 ++ [])))] := fun x hx => mem_feet.mpr ⟨_, .head _, by show x ∈ a :: (F1 ++ (F2 ++ [])); rw [List.append_nil]; exact hx⟩
          rcases List.mem_cons.mp hc with rfl | hc
          · exact ⟨⟨_, e, k, rfl⟩, fun x hx => .inl (hin x (by cases List.mem_singleton.mp hx; exact .head _))⟩
          · rcases List.mem_cons.mp hc with rfl | hc
            · exact ⟨⟨n2, r1⟩, fun x hx => .inl (hin x (.tail _ (List.mem_append_left _ hx)))⟩
            · cases List.mem_singleton.mp hc
              exact ⟨⟨n3, r3⟩, fun x hx => .inl (hin x (.tail _ (List.mem_append_right _ hx)))⟩
        · refine List.pairwise_cons.mpr ⟨fun c hc x hx hy => ?_, List.pairwise_cons.mpr ⟨fun c hc x hx hy => ?_, List.pairwise_singleton _ _⟩⟩
          · cases List.mem_singleton.mp hx
            rcases List.mem_cons.mp hc with rfl | hc
            · exact n0 (List.mem_append_left _ hy)
            · cases List.mem_singleton.mp hc; exact n0 (List.mem_append_right _ hy)
          · cases List.mem_singleton.mp hc
            exact n4 x hx x hy rfl
theorem datTail {v : Value} {x : Str} {F : List Addr} (hm : DAT v (.tuple [.none, .none, .str x]) F ∈ cs) : ∀ s, Sit fm vs cs s → ∃ a t, v = .ref a ∧ s.heap.IsTuple a #[.none, .none, .str x t] := fun s S => by
  obtain ⟨_, r⟩ := (S.own _ hm).1
  cases r with
  | tuple e r =>
    cases r with
    | cons r1 r =>
      cases r with
      | cons r2 r =>
        cases r with
        | cons r3 r =>
          cases r1; cases r2; cases r3; cases r
          exact ⟨_, _, rfl, _, e, rfl, _, rfl⟩
/-- a list of texts in a list -/
theorem lsxRow {a : Addr} {xs : List Value} {R : List (List Str)} {F : List Addr} (hm : LSX a xs (R.map rowD) F ∈ cs) {i : Nat} {v : Value} {r : List Str} (hv : xs[i]? = some v) (hp : R[i]? = some r) : ∀ s, Sit fm vs cs s → ∃ b ys H, v = .ref b ∧ s.heap.IsList b (List.toArray ys) ∧ Strs ys r ∧ Rx s.heap H v (rowD r) := fun s S => by
  obtain ⟨_, _, rr⟩ := (S.own _ hm).1
  obtain ⟨d, H, q1, q2, _⟩ := rr.get hv
  rw [List.getElem?_map, hp] at q1
  cases q1
  have q3 := q2
  unfold rowD at q2
  cases q2 with
  | list e r' => exact ⟨_, _, _, rfl, ⟨_, e, rfl, _, rfl⟩, (Strs.of_rx r' r rfl).1, q3⟩
theorem lsx_len {a : Addr} {xs : List Value} {ds : List PyData} {F : List Addr} (hm : LSX a xs ds F ∈ cs) {s : Shared} (S : Sit fm vs cs s) : xs.length = ds.length := by
  obtain ⟨_, _, r⟩ := (S.own _ hm).1
  exact r.length
end
/-- a def with cells, the frames known -/
theorem SpecX.of_bodyC {gp : GP} {w : World} {K : Frag} {k : Nat} {f : Addr} {fd : FuncData} {ns : List Str} {gs : List (Str × Value)} {vals : List Value} {B : Heap → Prop} {cs₀ : List HP} {Post : Value → List HP → Prop} {body : List Stmt} {binds : List (Str × Value)} {vs₀ : Vals} {cells : Nat → List (Str × Addr)} {cc : Nat → List HP}
    (ok : FnOk K f fd ns gs) (hb : fd.body = .stmts body) (hbind : bindArgs fd ⟨vals, []⟩ = pure binds) (hclo : fd.closure = [])
    (hcells : ∀ L, cellsFrom L fd.scope.names [] = cells L) (hlook : ∀ L, ∀ p ∈ cells L, (cells L).lookup p.1 = some p.2)
    (hkind : ∀ x ∈ binds, fd.scope.names.lookup x.1 = some .local ∨ (fd.scope.names.lookup x.1 = some .cell ∧ ∀ L, ((cells L).lookup x.1).isSome = true))
    (hgl : ∀ p ∈ gs, ∀ L, GlOk K (callEnvC fd L f) p)
    (hv : Agree ns vs₀ (bindL (fun x => fd.scope.names.lookup x) binds fun _ => none))
    (hcc : ∀ L, (cells L).map (fun p => CEL p.2 (bindC (fun x => fd.scope.names.lookup x) binds (fun _ => none) p.1)) = cc L)
    (h : ∀ A b, Rm A k → FrA A → TP K b.heap → B b.heap → G w A ⟨K, feet cs₀, b, callEnvC fd b.heap.objs.size f, ns, gs, gp, frOf A⟩ (execs body (callEnvC fd b.heap.objs.size f)) (Out Post) (fun _ _ _ => False) vs₀ (cc (b.heap.objs.size + 1) ++ cs₀)) :
    SpecX gp w K (k + 1) (.ref f) ⟨vals, []⟩ B cs₀ Post .none fun _ => False := by
  intro A s hA hFA T hH hG hB O
  refine codeAny_call_cells (fd := fd) (body := body) (binds := binds) (by have := hA.depth; omega) (T.kin _ _ ok.look) rfl T.lim (codeRec_of T.kin ok.code) hb hbind hclo (fun x hx => (hkind x hx).imp id fun z => ⟨z.1, by rw [hcells]; exact z.2 _⟩) (fun s₁ x => ?_) ok.co ok.gen ok.kind
  obtain ⟨⟨h₁, tk, rfl⟩, hns, hk, hfr⟩ := x.toInCall
  have ce : (callEnvC fd s.heap.objs.size f).cells = cells (s.heap.objs.size + 1) := hcells _
  have xc := x.cell
  have xa := x.apart
  have xb := x.above
  rw [ce] at xc xa xb
  have S : Sit ⟨K, feet cs₀, s, callEnvC fd s.heap.objs.size f, ns, gs, gp, frOf (A.deeper (callEnvC fd s.heap.objs.size f))⟩ vs₀ (cc (s.heap.objs.size + 1) ++ cs₀) { s with heap := h₁, toks := tk } := by
    refine ⟨⟨fun p hp => hgl p hp _, ⟨ok.glob, ok.bui⟩, T, fun a ha => ?_, ok.nd, fun x hx => ok.loc x hx, ok.dbg, ok.kind, Nat.le_refl _, fun a ha hn => ⟨(hH a (frOf_deeper rfl ha hn)).1, own_fr O (frOf_deeper rfl ha hn)⟩⟩, hG, rfl, fun a o e _ _ => hk a o e, frs_new hH hk fun a ha hn => frOf_deeper rfl ha hn, ⟨_, hns, hv⟩, fun c hc => ?_, ?_⟩
    · obtain ⟨c, hc, ha⟩ := mem_feet.mp ha
      exact ((O.own c hc).2 a ha).1
    · rcases List.mem_append.mp hc with hc | hc
      · rw [← hcc] at hc
        obtain ⟨p, hp, rfl⟩ := List.mem_map.mp hc
        have ab : @LT.lt Nat _ s.heap.objs.size p.2 := xb p.1 p.2 hp
        refine ⟨xc p.1 p.2 (hlook _ p hp), fun a ha => by cases List.mem_singleton.mp ha; exact .inr (Nat.le_of_lt ab), fun z => ?_⟩
        have : s.heap.objs.size = p.2 := List.mem_singleton.mp z
        exact absurd ab (by rw [this]; exact Nat.lt_irrefl _)
      · refine ⟨c.loc (fun a ha => ?_) (O.own c hc).1, fun a ha => .inl (mem_feet.mpr ⟨c, hc, ha⟩), fun z => ?_⟩
        · obtain ⟨o, ho⟩ := c.lt (O.own c hc).1 a ha
          rw [ho]; exact hk _ _ ho
        · obtain ⟨o, ho⟩ := c.lt (O.own c hc).1 _ z
          exact absurd (Heap.lt_size ho) (Nat.lt_irrefl _)
    · refine List.pairwise_append.mpr ⟨?_, O.apart, fun c hc d hd a h1 h2 => ?_⟩
      · rw [← hcc]
        exact List.pairwise_map.mpr (xa.imp fun {p q} z a h1 h2 => by cases List.mem_singleton.mp h1; exact z (List.mem_singleton.mp h2))
      · rw [← hcc] at hc
        obtain ⟨p, hp, rfl⟩ := List.mem_map.mp hc
        cases List.mem_singleton.mp h1
        have ab : @LT.lt Nat _ s.heap.objs.size p.2 := xb p.1 p.2 hp
        obtain ⟨o, ho⟩ := d.lt (O.own d hd).1 _ h2
        exact absurd (Heap.lt_size ho) (Nat.not_lt.mpr (Nat.le_of_lt ab))
  refine wpAny_mono (h (A.deeper (callEnvC fd s.heap.objs.size f)) s hA.deeper (hFA.deeper (fun q => by have : fd.scope.kind = .module := q; rw [ok.kind] at this; cases this) rfl) T hB _ S) (fun fl s' x => ?_) fun e s' x => ?_
  · obtain ⟨vs', cs', S', cs₁, junk, p, q⟩ := x
    exact .inl ⟨_, cs₁, rfl, (S'.perm p).leave fun a ha hn => frOf_deeper rfl ha hn, q⟩
  · obtain ⟨_, _, _, z⟩ := x
    exact z.elim
end
end
section
open PySem PySem.W PyProof.Rows PySem.Calls
section
noncomputable abbrev ns_law : List Str := ["script", "rows", "texts", "line", "pairs", "k", "due", "down", "up", "name", "one", "other", "back", "single"]
noncomputable abbrev gs_law : List (Str × Value) := [("_law_rows", .ref 891), ("join_shlex", .ref 878), ("_law_line", .ref 898), ("split", .ref 871), ("range", .type "range"), ("len", .builtin "len"), ("_law_due", .ref 910), ("_law_read", .ref 905), ("TopologicalSorter", .ref 167), ("_law_gone_through", .ref 917), ("_law_chains", .ref 922)]
/-- the law from the sorters on -/
noncomputable def lawRest : List Stmt := d_law.2.1.drop 7
theorem gone_fine {held : Bool} {rounds : List (List Str)} (h : ∀ r ∈ rounds, ∀ x ∈ r, PyData.strOk x = true) : Fine 3 (goneD held rounds) := by
  refine Fine.tuple fun d hd => ?_
  rcases List.mem_cons.mp hd with rfl | hd
  · exact Fine.bool _
  · rcases List.mem_cons.mp hd with rfl | hd
    · refine Fine.list fun d hd => ?_
      obtain ⟨r, hr, rfl⟩ := List.mem_map.mp hd
      exact fine_strs (h r hr)
    · cases List.mem_singleton.mp hd; exact Fine.bool _
theorem Rounds.mem {P : Prs} {h : List Str} {n : Nat} {rs : List (List Str)} (a : Rounds P h n rs) : ∀ r ∈ rs, ∀ x ∈ r, x ∈ h := fun r hr x hx => by
  obtain ⟨i, hi, e⟩ := List.getElem_of_mem hr
  have := (a.each i r (by rw [List.getElem?_eq_getElem hi, e])).2.mem_iff.mp hx
  exact left_sub i x (gone_mem.mp this).1
theorem Rounds.data {P : Prs} {h h' : List Str} {n n' : Nat} {rs rs' : List (List Str)} (a : Rounds P h n rs) (b : Rounds P h' n' rs') (p : h.Perm h') : goneD (!(left P h n).isEmpty) rs = goneD (!(left P h' n').isEmpty) rs' := by
  obtain ⟨rfl, rfl⟩ := a.same b p
  have e : (left P h n).isEmpty = (left P h' n).isEmpty := by
    have := (left_perm (P := P) p n).length_eq
    cases h1 : left P h n <;> cases h2 : left P h' n <;> simp_all
  rw [e]
theorem law_rest (w : World) (A : Around) (F0 : List Addr) (b : Shared) (hA : Rm A 11) (hFA : FrA A) (R : List (List Str)) (hR : RowsOk R) (v0 v1 v2 v3 : Value) (pra nma : Addr) (v5 v6 : Option Value) (nvs pvs : List Value) (Fp : List Addr) (ps : Array Value) (hnv : Strs nvs (restsOf R)) (hpl : pvs.length = (prsOf R).length) :
    G w A ⟨KT w, F0, b, callEnvC fd_law b.heap.objs.size 927, ns_law, gs_law, bareGP, frOf A⟩ (execs lawRest (callEnvC fd_law b.heap.objs.size 927)) (Out fun v cs => v = .bool true ∧ ∃ ps, cs = [TAB 873 ps]) NoE
      [some v0, some v1, some v2, some v3, some (.ref pra), v5, v6, none, none, none, none, none, none, none] [CEL (b.heap.objs.size + 1) (some (.ref nma)), RAW nma nvs, LSX pra pvs ((prsOf R).map pairD) Fp, TAB 873 ps] := by
  have hall := hR.len.2.2
  have hfine := hR.fine
  have hPl := hR.len.2.1
  have hNl : (restsOf R).length ≤ 14 := by rw [List.length_map]; exact hR.len.1
  generalize restsOf R = N0 at hnv hall hfine hNl
  generalize prsOf R = P at hpl hall hfine hPl
  refine letG ?_
  intro fm Q0
  refine G_cons ?_
  cell_end 5 0 0
  refine G_crN0 (by kernel_rfl!) ?_
  refine G_spec (cs₀ := []) (rest := [CEL (b.heap.objs.size + 1) (some (.ref nma)), RAW nma nvs, LSX pra pvs (P.map pairD) Fp, TAB 873 ps]) (sp_mkTS w) (hA.le (by decide)) (fun _ _ => trivial) ?_
  rintro v cs ⟨x1, dx1, rfl, D1, nds1, tp1, tf1, hg1, rfl⟩
  cell_end 5 0 0
  refine G_crN0 (by kernel_rfl!) ?_
  refine G_spec (cs₀ := []) (rest := [TSO x1 dx1 D1 .none 0 tp1 0 tf1, DCT w D1 (kvs nds1), NDS nds1, CEL (b.heap.objs.size + 1) (some (.ref nma)), RAW nma nvs, LSX pra pvs (P.map pairD) Fp, TAB 873 ps]) (sp_mkTS w) (hA.le (by decide)) (fun _ _ => trivial) ?_
  rintro v cs ⟨x2, dx2, rfl, D2, nds2, tp2, tf2, hg2, rfl⟩
  cell_end 1 0 0
  cell_end 1 0 0
  refine G_perm (cs' := [TSO x1 dx1 D1 .none 0 tp1 0 tf1, DCT w D1 (kvs nds1), NDS nds1, TSO x2 dx2 D2 .none 0 tp2 0 tf2, DCT w D2 (kvs nds2), NDS nds2, CEL (b.heap.objs.size + 1) (some (.ref nma)), RAW nma nvs, LSX pra pvs (P.map pairD) Fp, TAB 873 ps]) (by cell_end 9 0 0) ?_
  cell_end 5 0 0
  let R1 : Vals → List HP → Prop := fun vs cs => E7 fun nm nds1 tp1 tf1 nds2 tp2 tf2 => A4 (vs = [some v0, some v1, some v2, some v3, some (.ref pra), v5, v6, some (.ref x1), some (.ref x2), nm, none, none, none, none]) (GrOk nds1 (bld0 N0) (3 * N0.length)) (GrOk nds2 (bld0 N0) (3 * N0.length)) (cs = [TSO x1 dx1 D1 .none 0 tp1 0 tf1, DCT w D1 (kvs nds1), NDS nds1, TSO x2 dx2 D2 .none 0 tp2 0 tf2, DCT w D2 (kvs nds2), NDS nds2, CEL (b.heap.objs.size + 1) (some (.ref nma)), RAW nma nvs, LSX pra pvs (P.map pairD) Fp, TAB 873 ps])
  refine G_midT R1 ?_ ?_
  · refine G_For ?_
    cell_end 5 0 0
    let J2 : Nat → Vals → List HP → Prop := fun i vs cs => E7 fun nm nds1 tp1 tf1 nds2 tp2 tf2 => A4 (vs = [some v0, some v1, some v2, some v3, some (.ref pra), v5, v6, some (.ref x1), some (.ref x2), nm, none, none, none, none]) (GrOk nds1 (bld0 (N0.take i)) (3 * i)) (GrOk nds2 (bld0 (N0.take i)) (3 * i)) (cs = [TSO x1 dx1 D1 .none 0 tp1 0 tf1, DCT w D1 (kvs nds1), NDS nds1, TSO x2 dx2 D2 .none 0 tp2 0 tf2, DCT w D2 (kvs nds2), NDS nds2, CEL (b.heap.objs.size + 1) (some (.ref nma)), RAW nma nvs, LSX pra pvs (P.map pairD) Fp, TAB 873 ps])
    refine ⟨_, _, _, J2, Src.list hA.handled nma nvs, ⟨none, nds1, tp1, tf1, nds2, tp2, tf2, rfl, hg1, hg2, rfl⟩, ?_, ?_, ?_⟩
    · rintro i vs cs s ⟨nm, nds1, tp1, tf1, nds2, tp2, tf2, rfl, _, _, rfl⟩ S
      exact sitRaw (by cell_end 7 0 0) s S
    · rintro i v vs cs X hi hv ⟨nm, nds1, tp1, tf1, nds2, tp2, tf2, rfl, hg1, hg2, rfl⟩
      obtain ⟨name, tn, hx, rfl⟩ := hnv.get hv
      have htk : N0.take (i + 1) = N0.take i ++ [name] := by rw [List.take_add_one, hx]; rfl
      have hil : i < N0.length := (List.getElem?_eq_some_iff.mp hx).1
      have hb0 : bld0 (N0.take (i + 1)) = gAdd (bld0 (N0.take i)) name [] := by rw [htk]; exact List.foldl_append ..
      refine G_sub (cs' := [TSO x1 dx1 D1 .none 0 tp1 0 tf1, DCT w D1 (kvs nds1), NDS nds1, TSO x2 dx2 D2 .none 0 tp2 0 tf2, DCT w D2 (kvs nds2), NDS nds2, CEL (b.heap.objs.size + 1) (some (.ref nma)), RAW nma nvs, LSX pra pvs (P.map pairD) Fp, TAB 873 ps, X]) (.refl _) ?_
      cell_end 5 0 0
      refine G_methI (cok_TS w) (f := 117) (by kernel_rfl!) (by kernel_rfl!) (by decide +kernel) ?_ (by rfl)
      cell_end 5 0 0
      refine ⟨x1, dx1, _, rfl, insAt (by cell_end 7 0 0), ?_⟩
      refine G_crS (by kernel_rfl!) ?_ (by k_dflt rfl)
      cell_end 5 0 0
      refine G_spec (cs₀ := [TSO x1 dx1 D1 .none 0 tp1 0 tf1, DCT w D1 (kvs nds1), NDS nds1]) (rest := [TSO x2 dx2 D2 .none 0 tp2 0 tf2, DCT w D2 (kvs nds2), NDS nds2, CEL (b.heap.objs.size + 1) (some (.ref nma)), RAW nma nvs, LSX pra pvs (P.map pairD) Fp, TAB 873 ps, X]) (sp_add w x1 dx1 D1 0 0 _ _ (by omega) name tn [] [] .nil (.inl rfl) _ ⟨nds1, tp1, tf1, hg1, rfl⟩) (hA.le (by decide)) (fun _ _ => trivial) ?_
      rintro v cs ⟨rfl, nds1', tp1', tf1', hg1', rfl⟩
      refine ⟨fun _ q => (nomatch q), ?_⟩
      cell_end 1 0 0
      refine G_sub (cs' := [TSO x1 dx1 D1 .none 0 tp1' 0 tf1', DCT w D1 (kvs nds1'), NDS nds1', TSO x2 dx2 D2 .none 0 tp2 0 tf2, DCT w D2 (kvs nds2), NDS nds2, CEL (b.heap.objs.size + 1) (some (.ref nma)), RAW nma nvs, LSX pra pvs (P.map pairD) Fp, TAB 873 ps, X]) (.refl _) ?_
      cell_end 5 0 0
      refine G_methI (cok_TS w) (f := 117) (by kernel_rfl!) (by kernel_rfl!) (by decide +kernel) ?_ (by rfl)
      cell_end 5 0 0
      refine ⟨x2, dx2, _, rfl, insAt (by cell_end 7 0 0), ?_⟩
      refine G_crS (by kernel_rfl!) ?_ (by k_dflt rfl)
      cell_end 5 0 0
      refine G_perm (cs' := [TSO x2 dx2 D2 .none 0 tp2 0 tf2, DCT w D2 (kvs nds2), NDS nds2] ++ [TSO x1 dx1 D1 .none 0 tp1' 0 tf1', DCT w D1 (kvs nds1'), NDS nds1', CEL (b.heap.objs.size + 1) (some (.ref nma)), RAW nma nvs, LSX pra pvs (P.map pairD) Fp, TAB 873 ps, X]) (by cell_end 9 0 0) ?_
      refine G_spec (cs₀ := [TSO x2 dx2 D2 .none 0 tp2 0 tf2, DCT w D2 (kvs nds2), NDS nds2]) (rest := [TSO x1 dx1 D1 .none 0 tp1' 0 tf1', DCT w D1 (kvs nds1'), NDS nds1', CEL (b.heap.objs.size + 1) (some (.ref nma)), RAW nma nvs, LSX pra pvs (P.map pairD) Fp, TAB 873 ps, X]) (sp_add w x2 dx2 D2 0 0 _ _ (by omega) name tn [] [] .nil (.inl rfl) _ ⟨nds2, tp2, tf2, hg2, rfl⟩) (hA.le (by decide)) (fun _ _ => trivial) ?_
      rintro v cs ⟨rfl, nds2', tp2', tf2', hg2', rfl⟩
      refine ⟨fun _ q => (nomatch q), ?_⟩
      cell_end 5 0 0
      refine ⟨[TSO x1 dx1 D1 .none 0 tp1' 0 tf1', DCT w D1 (kvs nds1'), NDS nds1', TSO x2 dx2 D2 .none 0 tp2' 0 tf2', DCT w D2 (kvs nds2'), NDS nds2', CEL (b.heap.objs.size + 1) (some (.ref nma)), RAW nma nvs, LSX pra pvs (P.map pairD) Fp, TAB 873 ps], ?_, _, nds1', tp1', tf1', nds2', tp2', tf2', rfl, ?_, ?_, rfl⟩
      · cell_end 9 0 0
      · rw [hb0, show 3 * (i + 1) = 3 * i + 3 by omega]; exact hg1'
      · rw [hb0, show 3 * (i + 1) = 3 * i + 3 by omega]; exact hg2'
    · rintro vs cs ⟨nm, nds1, tp1, tf1, nds2, tp2, tf2, rfl, hg1, hg2, rfl⟩
      rw [hnv.length, List.take_length] at hg1 hg2
      exact ⟨rfl, nm, nds1, tp1, tf1, nds2, tp2, tf2, rfl, hg1, hg2, rfl⟩
  clear hg1 hg2
  rintro vs cs ⟨nm, nds1, tp1, tf1, nds2, tp2, tf2, rfl, hg1, hg2, rfl⟩
  let R3 : Vals → List HP → Prop := fun vs cs => E9 fun o1 o2 nvs nds1 tp1 tf1 nds2 tp2 tf2 => A5 (vs = [some v0, some v1, some v2, some v3, some (.ref pra), v5, v6, some (.ref x1), some (.ref x2), nm, o1, o2, none, none]) (Strs nvs (allNames N0 P)) (GrOk nds1 (bld N0 P) (3 * (N0.length + P.length))) (GrOk nds2 (bld N0 (swp P)) (3 * (N0.length + P.length))) (cs = [TSO x1 dx1 D1 .none 0 tp1 0 tf1, DCT w D1 (kvs nds1), NDS nds1, TSO x2 dx2 D2 .none 0 tp2 0 tf2, DCT w D2 (kvs nds2), NDS nds2, CEL (b.heap.objs.size + 1) (some (.ref nma)), RAW nma nvs, LSX pra pvs (P.map pairD) Fp, TAB 873 ps])
  refine G_mid R3 ?_ ?_
  · refine G_For ?_
    cell_end 5 0 0
    let J4 : Nat → Vals → List HP → Prop := fun i vs cs => E9 fun o1 o2 nvs nds1 tp1 tf1 nds2 tp2 tf2 => A5 (vs = [some v0, some v1, some v2, some v3, some (.ref pra), v5, v6, some (.ref x1), some (.ref x2), nm, o1, o2, none, none]) (Strs nvs (allNames N0 (P.take i))) (GrOk nds1 (bld N0 (P.take i)) (3 * (N0.length + i))) (GrOk nds2 (bld N0 (swp (P.take i))) (3 * (N0.length + i))) (cs = [TSO x1 dx1 D1 .none 0 tp1 0 tf1, DCT w D1 (kvs nds1), NDS nds1, TSO x2 dx2 D2 .none 0 tp2 0 tf2, DCT w D2 (kvs nds2), NDS nds2, CEL (b.heap.objs.size + 1) (some (.ref nma)), RAW nma nvs, LSX pra pvs (P.map pairD) Fp, TAB 873 ps])
    refine ⟨_, _, _, J4, Src.list hA.handled pra pvs, ⟨none, none, nvs, nds1, tp1, tf1, nds2, tp2, tf2, rfl, hnv, hg1, hg2, rfl⟩, ?_, ?_, ?_⟩
    · rintro i vs cs s ⟨o1, o2, nvs, nds1, tp1, tf1, nds2, tp2, tf2, rfl, _, _, _, rfl⟩ S
      exact isList_of (S.lsx (by cell_end 7 0 0))
    · clear hg1 hg2
      rintro i v vs cs X hi hv ⟨o1, o2, nvs, nds1, tp1, tf1, nds2, tp2, tf2, rfl, hnv, hg1, hg2, rfl⟩
      obtain ⟨p, hp⟩ : ∃ p, P[i]? = some p := ⟨_, List.getElem?_eq_getElem (by rw [← hpl]; exact hi)⟩
      have htk : P.take (i + 1) = P.take i ++ [p] := by rw [List.take_add_one, hp]; rfl
      have hil : i < P.length := (List.getElem?_eq_some_iff.mp hp).1
      have hb1 : bld N0 (P.take (i + 1)) = gAdd (bld N0 (P.take i)) p.1 [p.2] := by rw [htk]; exact List.foldl_append ..
      have hb2 : bld N0 (swp (P.take (i + 1))) = gAdd (bld N0 (swp (P.take i))) p.2 [p.1] := by
        rw [htk]
        unfold swp
        rw [List.map_append]
        exact List.foldl_append ..
      have hal := (allNames_mem (P.take i) N0 "").2
      rw [List.length_take] at hal
      refine G_sub (cs' := [TSO x1 dx1 D1 .none 0 tp1 0 tf1, DCT w D1 (kvs nds1), NDS nds1, TSO x2 dx2 D2 .none 0 tp2 0 tf2, DCT w D2 (kvs nds2), NDS nds2, CEL (b.heap.objs.size + 1) (some (.ref nma)), RAW nma nvs, LSX pra pvs (P.map pairD) Fp, TAB 873 ps, X]) (.refl _) ?_
      refine G_know (P := ∃ t, v = .ref t) (fun s S => by obtain ⟨t, _, _, e, _⟩ := lsxPair (by cell_end 7 0 0) hv hp s S; exact ⟨t, e⟩) ?_
      rintro ⟨tu, rfl⟩
      refine G_aTup2 hA.handled ?_ (by rfl)
      intro s S
      obtain ⟨t, t1, t2, e, ht⟩ := lsxPair (by cell_end 7 0 0) hv hp s S
      cases e
      refine ⟨_, _, ht, ?_⟩
      clear ht S s
      cell_end 5 0 0
      refine G_methI (cok_TS w) (f := 117) (by kernel_rfl!) (by kernel_rfl!) (by decide +kernel) ?_ (by rfl)
      cell_end 5 0 0
      refine ⟨x1, dx1, _, rfl, insAt (by cell_end 7 0 0), ?_⟩
      refine G_crS (by kernel_rfl!) ?_ (by k_dflt rfl)
      cell_end 5 0 0
      refine G_spec (cs₀ := [TSO x1 dx1 D1 .none 0 tp1 0 tf1, DCT w D1 (kvs nds1), NDS nds1]) (rest := [TSO x2 dx2 D2 .none 0 tp2 0 tf2, DCT w D2 (kvs nds2), NDS nds2, CEL (b.heap.objs.size + 1) (some (.ref nma)), RAW nma nvs, LSX pra pvs (P.map pairD) Fp, TAB 873 ps, X]) (sp_add w x1 dx1 D1 0 0 _ _ (by omega) p.1 t1 [.str p.2 t2] [p.2] (.cons .nil) (.inr ⟨_, rfl⟩) _ ⟨nds1, tp1, tf1, hg1, rfl⟩) (hA.le (by decide)) (fun _ _ => trivial) ?_
      rintro v cs ⟨rfl, nds1', tp1', tf1', hg1', rfl⟩
      refine ⟨fun _ q => (nomatch q), ?_⟩
      cell_end 1 0 0
      refine G_sub (cs' := [TSO x1 dx1 D1 .none 0 tp1' 0 tf1', DCT w D1 (kvs nds1'), NDS nds1', TSO x2 dx2 D2 .none 0 tp2 0 tf2, DCT w D2 (kvs nds2), NDS nds2, CEL (b.heap.objs.size + 1) (some (.ref nma)), RAW nma nvs, LSX pra pvs (P.map pairD) Fp, TAB 873 ps, X]) (.refl _) ?_
      cell_end 5 0 0
      refine G_methI (cok_TS w) (f := 117) (by kernel_rfl!) (by kernel_rfl!) (by decide +kernel) ?_ (by rfl)
      cell_end 5 0 0
      refine ⟨x2, dx2, _, rfl, insAt (by cell_end 7 0 0), ?_⟩
      refine G_crS (by kernel_rfl!) ?_ (by k_dflt rfl)
      cell_end 5 0 0
      refine G_perm (cs' := [TSO x2 dx2 D2 .none 0 tp2 0 tf2, DCT w D2 (kvs nds2), NDS nds2] ++ [TSO x1 dx1 D1 .none 0 tp1' 0 tf1', DCT w D1 (kvs nds1'), NDS nds1', CEL (b.heap.objs.size + 1) (some (.ref nma)), RAW nma nvs, LSX pra pvs (P.map pairD) Fp, TAB 873 ps, X]) (by cell_end 9 0 0) ?_
      refine G_spec (cs₀ := [TSO x2 dx2 D2 .none 0 tp2 0 tf2, DCT w D2 (kvs nds2), NDS nds2]) (rest := [TSO x1 dx1 D1 .none 0 tp1' 0 tf1', DCT w D1 (kvs nds1'), NDS nds1', CEL (b.heap.objs.size + 1) (some (.ref nma)), RAW nma nvs, LSX pra pvs (P.map pairD) Fp, TAB 873 ps, X]) (sp_add w x2 dx2 D2 0 0 _ _ (by omega) p.2 t2 [.str p.1 t1] [p.1] (.cons .nil) (.inr ⟨_, rfl⟩) _ ⟨nds2, tp2, tf2, hg2, rfl⟩) (hA.le (by decide)) (fun _ _ => trivial) ?_
      rintro v cs ⟨rfl, nds2', tp2', tf2', hg2', rfl⟩
      refine ⟨fun _ q => (nomatch q), ?_⟩
      cell_end 1 0 0
      refine G_sub (cs' := [TSO x2 dx2 D2 .none 0 tp2' 0 tf2', DCT w D2 (kvs nds2'), NDS nds2', TSO x1 dx1 D1 .none 0 tp1' 0 tf1', DCT w D1 (kvs nds1'), NDS nds1', CEL (b.heap.objs.size + 1) (some (.ref nma)), RAW nma nvs, LSX pra pvs (P.map pairD) Fp, TAB 873 ps, X]) (.refl _) ?_
      cell_end 5 0 0
      refine G_m1 PySem.F.slot_list_extend PySem.F.type_list_extend PySem.F.plainAttrs_list ?_ (by k_dflt rfl) (by k_dflt rfl) (by k_dflt rfl)
      cell_end 5 0 0
      refine ⟨rawTy (by cell_end 7 0 0), ?_⟩
      cell_end 5 0 0
      refine G_newListR (szl (by simp)) fun tmp => ?_
      refine G_perm (cs' := [RAW nma nvs, RAW tmp [.str p.1 t1, .str p.2 t2], TSO x1 dx1 D1 .none 0 tp1' 0 tf1', DCT w D1 (kvs nds1'), NDS nds1', TSO x2 dx2 D2 .none 0 tp2' 0 tf2', DCT w D2 (kvs nds2'), NDS nds2', CEL (b.heap.objs.size + 1) (some (.ref nma)), LSX pra pvs (P.map pairD) Fp, TAB 873 ps, X]) (by cell_end 9 0 0) ?_
      refine G_extendR (ys := [.str p.1 t1, .str p.2 t2]) (fun s S => (S.own (RAW tmp _) (.tail _ (.head _))).1) (szl (by rw [hnv.length]; simp only [List.length_cons, List.length_nil]; omega)) ?_
      refine ⟨fun _ q => (nomatch q), ?_⟩
      cell_end 1 0 0
      refine G_p1 (G_drop ?_)
      cell_end 5 0 0
      refine ⟨[TSO x1 dx1 D1 .none 0 tp1' 0 tf1', DCT w D1 (kvs nds1'), NDS nds1', TSO x2 dx2 D2 .none 0 tp2' 0 tf2', DCT w D2 (kvs nds2'), NDS nds2', CEL (b.heap.objs.size + 1) (some (.ref nma)), RAW nma (nvs ++ [.str p.1 t1, .str p.2 t2]), LSX pra pvs (P.map pairD) Fp, TAB 873 ps], ?_, _, _, nvs ++ [.str p.1 t1, .str p.2 t2], nds1', tp1', tf1', nds2', tp2', tf2', rfl, ?_, ?_, ?_, rfl⟩
      · cell_end 9 0 0
      · rw [htk, allNames_snoc]; exact hnv.append (.cons (.cons .nil))
      · rw [hb1, show 3 * (N0.length + (i + 1)) = 3 * (N0.length + i) + 3 by omega]; exact hg1'
      · rw [hb2, show 3 * (N0.length + (i + 1)) = 3 * (N0.length + i) + 3 by omega]; exact hg2'
    · rintro vs cs ⟨o1, o2, nvs, nds1, tp1, tf1, nds2, tp2, tf2, rfl, hnv, hg1, hg2, rfl⟩
      rw [hpl] at hg1 hg2 hnv
      rw [List.take_length] at hg1 hg2 hnv
      exact ⟨rfl, o1, o2, nvs, nds1, tp1, tf1, nds2, tp2, tf2, rfl, hnv, hg1, hg2, rfl⟩
  clear hg1 hg2 hnv
  rintro vs cs ⟨o1, o2, nvs, nds1, tp1, tf1, nds2, tp2, tf2, rfl, hnv, hg1, hg2, rfl⟩
  refine G_cons ?_
  refine G_emp ?_
  refine G_AssignLC (cl := []) ["one", "other"] [] ?_ (by k_dflt rfl) (scOk_of (by kernel_rfl!)) (by k_dflt rfl) (by k_dflt rfl) (by decide +kernel)
  cell_end 5 0 0
  let Z21 : List Value → List HP → Prop := fun ys cs => ∃ Hb, cs = [ALL ys ((swp P).map pairD) Hb, TSO x1 dx1 D1 .none 0 tp1 0 tf1, DCT w D1 (kvs nds1), NDS nds1, TSO x2 dx2 D2 .none 0 tp2 0 tf2, DCT w D2 (kvs nds2), NDS nds2, CEL (b.heap.objs.size + 1) (some (.ref nma)), RAW nma nvs, LSX pra pvs (P.map pairD) Fp, TAB 873 ps] ∧ ys.length = (swp P).length
  let J21 : Addr → Nat → List Value → Vals → List HP → Prop := fun C i ys vs cs => E3 fun Hb u1 u2 => A3 (ys.length = i) (vs = [u1, u2]) (cs = [ALL ys ((swp (P.take i)).map pairD) Hb, TSO x1 dx1 D1 .none 0 tp1 0 tf1, DCT w D1 (kvs nds1), NDS nds1, TSO x2 dx2 D2 .none 0 tp2 0 tf2, DCT w D2 (kvs nds2), NDS nds2, CEL (b.heap.objs.size + 1) (some (.ref nma)), RAW nma nvs, LSX pra pvs (P.map pairD) Fp, TAB 873 ps])
  refine ⟨Z21, _, _, _, J21, ⟨Src.list hA.handled pra pvs, by rw [hpl]; exact szl (by omega), fun s S => isList_of (S.lsx (by cell_end 7 0 0)), fun C => ⟨[], none, none, rfl, rfl, rfl⟩, ?_, ?_, ?_⟩, ?_⟩
  · rintro C b' i ys vs cs s - ⟨Hb, u1, u2, _, rfl, rfl⟩ S
    exact isList_of (S.lsx (by cell_end 7 0 0))
  · rintro C b' i v ys vs cs Y X hb hi hv ⟨Hb, u1, u2, hyl, rfl, rfl⟩
    obtain ⟨p, hp⟩ : ∃ p, P[i]? = some p := ⟨_, List.getElem?_eq_getElem (by rw [← hpl]; exact hi)⟩
    have htk : P.take (i + 1) = P.take i ++ [p] := by rw [List.take_add_one, hp]; rfl
    refine letG ?_
    intro fm2 Q2
    refine G_sub (cs' := [ALL ys ((swp (P.take i)).map pairD) Hb, TSO x1 dx1 D1 .none 0 tp1 0 tf1, DCT w D1 (kvs nds1), NDS nds1, TSO x2 dx2 D2 .none 0 tp2 0 tf2, DCT w D2 (kvs nds2), NDS nds2, CEL (b.heap.objs.size + 1) (some (.ref nma)), RAW nma nvs, LSX pra pvs (P.map pairD) Fp, TAB 873 ps, Y, X]) (.refl _) ?_
    refine G_know (P := ∃ t, v = .ref t) (fun s S => by obtain ⟨t, _, _, e, _⟩ := lsxPair (by cell_end 7 0 0) hv hp s S; exact ⟨t, e⟩) ?_
    rintro ⟨tu, rfl⟩
    refine G_aTup2 hA.handled ?_ (by rfl)
    intro s S
    obtain ⟨t, t1, t2, e, ht⟩ := lsxPair (by cell_end 7 0 0) hv hp s S
    cases e
    refine ⟨_, _, ht, ?_⟩
    clear ht S s
    cell_end 5 0 0
    refine G_tupAll (es := [.str p.2, .str p.1]) (fun _ => .cons (F := []) (.str _ _) (.cons (F := []) (.str _ _) .nil)) (szl (Nat.le_of_ble_eq_true rfl)) fun ta => ?_
    refine ⟨[ALL (ys ++ [.ref ta]) ((swp (P.take i)).map pairD ++ [.tuple [.str p.2, .str p.1]]) (Hb ++ [ta]), TSO x1 dx1 D1 .none 0 tp1 0 tf1, DCT w D1 (kvs nds1), NDS nds1, TSO x2 dx2 D2 .none 0 tp2 0 tf2, DCT w D2 (kvs nds2), NDS nds2, CEL (b.heap.objs.size + 1) (some (.ref nma)), RAW nma nvs, LSX pra pvs (P.map pairD) Fp, TAB 873 ps], .refl _, Hb ++ [ta], _, _, by rw [List.length_append, hyl]; rfl, rfl, ?_⟩
    have e2 : swp (P.take (i + 1)) = swp (P.take i) ++ [(p.2, p.1)] := by
      rw [htk]; unfold swp; rw [List.map_append]; rfl
    rw [e2, List.map_append]; rfl
  · rintro C ys vs cs ⟨Hb, u1, u2, hyl, rfl, rfl⟩
    rw [hpl, List.take_length]
    exact ⟨Hb, rfl, by rw [hyl, hpl]; unfold swp; rw [List.length_map]⟩
  rintro ba ys cs ⟨Hb, rfl, hyl⟩
  cell_end 1 0 0
  cell_end 1 0 0
  refine G_pair ?_
  refine G_cons ?_
  refine G_AssignLC (cl := [("names", b.heap.objs.size + 1)]) ["k"] [] ?_ (by k_dflt rfl) (scOk_of (by kernel_rfl!)) (by k_dflt rfl) (by k_dflt rfl) (by decide +kernel)
  cell_end 5 0 0
  have hnl : nvs.length ≤ 14 := by rw [hnv.length]; exact hall
  refine G_len (sitRaw (by cell_end 7 0 0)) (by omega) fun tnl => ?_
  cell_end 5 0 0
  refine G_range1 fun r => ?_
  refine ⟨fun zs cs => Strs zs (dedup (allNames N0 P)) ∧ cs = [RNG r 0 nvs.length 1, LSX ba ys ((swp P).map pairD) Hb, TSO x1 dx1 D1 .none 0 tp1 0 tf1, DCT w D1 (kvs nds1), NDS nds1, TSO x2 dx2 D2 .none 0 tp2 0 tf2, DCT w D2 (kvs nds2), NDS nds2, CEL (b.heap.objs.size + 1) (some (.ref nma)), RAW nma nvs, LSX pra pvs (P.map pairD) Fp, TAB 873 ps], _, _, _, fun C i zs vs cs => ∃ ko, A3 (vs = [ko]) (Strs zs (dedup ((allNames N0 P).take i))) (cs = [RNG r 0 nvs.length 1, LSX ba ys ((swp P).map pairD) Hb, TSO x1 dx1 D1 .none 0 tp1 0 tf1, DCT w D1 (kvs nds1), NDS nds1, TSO x2 dx2 D2 .none 0 tp2 0 tf2, DCT w D2 (kvs nds2), NDS nds2, CEL (b.heap.objs.size + 1) (some (.ref nma)), RAW nma nvs, LSX pra pvs (P.map pairD) Fp, TAB 873 ps]), ⟨Src.range (a := 0) (b := nvs.length) (c := 1) hA.handled (small_one (by omega)), by rw [range_one]; exact szl (by omega), sitRng (by cell_end 7 0 0), fun C => ⟨none, rfl, .nil, rfl⟩, ?_, ?_, ?_⟩, ?_⟩
  · rintro C b' i zs vs cs s - ⟨ko, rfl, _, rfl⟩ S
    exact sitRng (by cell_end 7 0 0) s S
  · rintro C b' i v zs vs cs Y X hb hi ⟨tk, hv⟩ ⟨ko, rfl, hzs, rfl⟩
    rw [show (0 : Int) + (i : Int) * 1 = (i : Int) by omega] at hv
    subst hv
    rw [range_one] at hi
    obtain ⟨x, hx⟩ : ∃ x, (allNames N0 P)[i]? = some x := ⟨_, List.getElem?_eq_getElem (by rw [← hnv.length]; exact hi)⟩
    have htk : (allNames N0 P).take (i + 1) = (allNames N0 P).take i ++ [x] := by rw [List.take_add_one, hx]; rfl
    obtain ⟨tx', hxv⟩ := hnv.getD hx
    refine G_sub (cs' := [RNG r 0 nvs.length 1, LSX ba ys ((swp P).map pairD) Hb, TSO x1 dx1 D1 .none 0 tp1 0 tf1, DCT w D1 (kvs nds1), NDS nds1, TSO x2 dx2 D2 .none 0 tp2 0 tf2, DCT w D2 (kvs nds2), NDS nds2, CEL (b.heap.objs.size + 1) (some (.ref nma)), RAW nma nvs, LSX pra pvs (P.map pairD) Fp, TAB 873 ps, Y, X]) (.refl _) ?_
    cell_end 5 0 0
    refine G_item (sitRaw (by cell_end 7 0 0)) (by omega) (by omega) (by rw [Int.toNat_natCast]; exact hxv) ?_
    cell_end 5 0 0
    refine ⟨nma, nvs, none, some (i : Nat), rfl, sitRaw (by cell_end 7 0 0), szl (by omega), .none, .int _ _, fun sl => ?_⟩
    rw [slicePick_upto']
    refine G_notInL (sitRaw (by cell_end 7 0 0)) (hnv.take i) ?_
    refine G_drop ?_
    cell_end 5 0 0
    refine bif_s (fun h1 => ?_) (fun h1 => ?_)
    · cell_end 5 0 0
      refine G_item (sitRaw (by cell_end 7 0 0)) (by omega) (by omega) (by rw [Int.toNat_natCast]; exact hxv) ?_
      refine ⟨[RNG r 0 nvs.length 1, LSX ba ys ((swp P).map pairD) Hb, TSO x1 dx1 D1 .none 0 tp1 0 tf1, DCT w D1 (kvs nds1), NDS nds1, TSO x2 dx2 D2 .none 0 tp2 0 tf2, DCT w D2 (kvs nds2), NDS nds2, CEL (b.heap.objs.size + 1) (some (.ref nma)), RAW nma nvs, LSX pra pvs (P.map pairD) Fp, TAB 873 ps], .refl _, _, rfl, ?_, rfl⟩
      rw [htk, dedup_snoc, dedup_any, if_neg (fun q => by rw [q] at h1; cases h1)]
      exact hzs.append (.cons .nil)
    · refine ⟨[RNG r 0 nvs.length 1, LSX ba ys ((swp P).map pairD) Hb, TSO x1 dx1 D1 .none 0 tp1 0 tf1, DCT w D1 (kvs nds1), NDS nds1, TSO x2 dx2 D2 .none 0 tp2 0 tf2, DCT w D2 (kvs nds2), NDS nds2, CEL (b.heap.objs.size + 1) (some (.ref nma)), RAW nma nvs, LSX pra pvs (P.map pairD) Fp, TAB 873 ps], .refl _, _, rfl, ?_, rfl⟩
      rw [htk, dedup_snoc, dedup_any, if_pos ((Bool.not_eq_false' ..).mp h1)]
      exact hzs
  · rintro C zs vs cs ⟨ko, rfl, hzs, rfl⟩
    rw [range_one, hnv.length, List.take_length] at hzs
    exact ⟨hzs, rfl⟩
  rintro sa zs cs ⟨hzs, rfl⟩
  cell_end 1 0 0
  cell_end 1 0 0
  have hk1 := bld_keys N0 P hg1.nd
  have hk2 := swp_keys N0 P hg2.nd
  have hdl : (dedup (allNames N0 P)).length ≤ 14 := Nat.le_trans (dedup_len _) hall
  have hdf : ∀ x ∈ dedup (allNames N0 P), PyData.strOk x = true := fun x hx => hfine x ((dedup_mem _ x).mp hx)
  refine G_perm (cs' := [TSO x1 dx1 D1 .none 0 tp1 0 tf1, DCT w D1 (kvs nds1), NDS nds1] ++ [RAW sa zs, LSX pra pvs (P.map pairD) Fp, TAB 873 ps, LSX ba ys ((swp P).map pairD) Hb, TSO x2 dx2 D2 .none 0 tp2 0 tf2, DCT w D2 (kvs nds2), NDS nds2, RNG r 0 nvs.length 1, CEL (b.heap.objs.size + 1) (some (.ref nma)), RAW nma nvs]) (by cell_end 9 0 0) ?_
  cell_end 5 0 0
  refine G_crN (by kernel_rfl!) ?_ (by k_dflt rfl)
  cell_end 5 0 0
  refine G_specX (cs₀ := [TSO x1 dx1 D1 .none 0 tp1 0 tf1, DCT w D1 (kvs nds1), NDS nds1]) (rest := [RAW sa zs, LSX pra pvs (P.map pairD) Fp, TAB 873 ps, LSX ba ys ((swp P).map pairD) Hb, TSO x2 dx2 D2 .none 0 tp2 0 tf2, DCT w D2 (kvs nds2), NDS nds2, RNG r 0 nvs.length 1, CEL (b.heap.objs.size + 1) (some (.ref nma)), RAW nma nvs]) (sp_gone bareGP w x1 dx1 D1 (bld N0 P) _ (by omega) P (bld_inv hg1.nd) (by rw [← hk1.length_eq]; omega) _ ⟨nds1, tp1, tf1, hg1, rfl⟩) (hA.le (by decide)) hFA (fun _ _ => trivial) ?_
  rintro v cs ⟨d1, Fd1, held1, n1, rs1, rfl, rfl, hr1, hh1⟩
  cell_end 5 0 0
  refine G_crN (by kernel_rfl!) ?_ (by k_dflt rfl)
  cell_end 5 0 0
  refine G_perm (cs' := [RAW sa zs, LSX pra pvs (P.map pairD) Fp] ++ [TAB 873 ps, DAT (.ref d1) (goneD held1 rs1) Fd1, LSX ba ys ((swp P).map pairD) Hb, TSO x2 dx2 D2 .none 0 tp2 0 tf2, DCT w D2 (kvs nds2), NDS nds2, RNG r 0 nvs.length 1, CEL (b.heap.objs.size + 1) (some (.ref nma)), RAW nma nvs]) (by cell_end 9 0 0) ?_
  refine G_spec (cs₀ := [RAW sa zs, LSX pra pvs (P.map pairD) Fp]) (rest := [TAB 873 ps, DAT (.ref d1) (goneD held1 rs1) Fd1, LSX ba ys ((swp P).map pairD) Hb, TSO x2 dx2 D2 .none 0 tp2 0 tf2, DCT w D2 (kvs nds2), NDS nds2, RNG r 0 nvs.length 1, CEL (b.heap.objs.size + 1) (some (.ref nma)), RAW nma nvs]) (sp_chains w sa pra zs pvs _ P Fp hzs (by omega) (by omega) hdf) (hA.le (by decide)) (fun _ _ => trivial) ?_
  rintro v cs ⟨d2, Fd2, h0, n2, rs2, hp2, hpw2, hr2, rfl, rfl⟩
  have e12 : goneD held1 rs1 = goneD (!(left P h0 n2).isEmpty) rs2 := by rw [hh1]; exact hr1.data hr2 ((hk1.symm).trans hp2.symm)
  have hf1 : Fine 3 (goneD held1 rs1) := gone_fine fun q hq x hx => hdf x (hk1.mem_iff.mpr (hr1.mem q hq x hx))
  rw [← e12]
  refine G_sub (cs' := [DAT (.ref d2) (goneD held1 rs1) Fd2, RAW sa zs, LSX pra pvs (P.map pairD) Fp, TAB 873 ps, DAT (.ref d1) (goneD held1 rs1) Fd1, LSX ba ys ((swp P).map pairD) Hb, TSO x2 dx2 D2 .none 0 tp2 0 tf2, DCT w D2 (kvs nds2), NDS nds2, RNG r 0 nvs.length 1, CEL (b.heap.objs.size + 1) (some (.ref nma)), RAW nma nvs]) (.refl _) ?_
  refine G_neD (da := goneD held1 rs1) (db := goneD held1 rs1) (fun s S => ⟨_, (S.own (DAT (.ref d1) (goneD held1 rs1) Fd1) (by cell_end 7 0 0)).1.2⟩) (fun s S => ⟨_, (S.own (DAT (.ref d2) (goneD held1 rs1) Fd2) (by cell_end 7 0 0)).1.2⟩) (hf1.shaped (by decide)) (hf1.shaped (by decide)) hA.cmp ?_
  rw [SeqAt.eqv_refl _ hf1.1]
  refine G_perm (cs' := [TSO x2 dx2 D2 .none 0 tp2 0 tf2, DCT w D2 (kvs nds2), NDS nds2] ++ [RAW sa zs, LSX ba ys ((swp P).map pairD) Hb, DAT (.ref d2) (goneD held1 rs1) Fd2, LSX pra pvs (P.map pairD) Fp, TAB 873 ps, DAT (.ref d1) (goneD held1 rs1) Fd1, RNG r 0 nvs.length 1, CEL (b.heap.objs.size + 1) (some (.ref nma)), RAW nma nvs]) (by cell_end 9 0 0) ?_
  cell_end 5 0 0
  refine G_crN (by kernel_rfl!) ?_ (by k_dflt rfl)
  cell_end 5 0 0
  refine G_specX (cs₀ := [TSO x2 dx2 D2 .none 0 tp2 0 tf2, DCT w D2 (kvs nds2), NDS nds2]) (rest := [RAW sa zs, LSX ba ys ((swp P).map pairD) Hb, DAT (.ref d2) (goneD held1 rs1) Fd2, LSX pra pvs (P.map pairD) Fp, TAB 873 ps, DAT (.ref d1) (goneD held1 rs1) Fd1, RNG r 0 nvs.length 1, CEL (b.heap.objs.size + 1) (some (.ref nma)), RAW nma nvs]) (sp_gone bareGP w x2 dx2 D2 (bld N0 (swp P)) _ (by omega) (swp P) (bld_inv hg2.nd) (by rw [← hk2.length_eq]; omega) _ ⟨nds2, tp2, tf2, hg2, rfl⟩) (hA.le (by decide)) hFA (fun _ _ => trivial) ?_
  rintro v cs ⟨d3, Fd3, held3, n3, rs3, rfl, rfl, hr3, hh3⟩
  cell_end 5 0 0
  refine G_crN (by kernel_rfl!) ?_ (by k_dflt rfl)
  cell_end 5 0 0
  refine G_perm (cs' := [RAW sa zs, LSX ba ys ((swp P).map pairD) Hb] ++ [DAT (.ref d3) (goneD held3 rs3) Fd3, DAT (.ref d2) (goneD held1 rs1) Fd2, LSX pra pvs (P.map pairD) Fp, TAB 873 ps, DAT (.ref d1) (goneD held1 rs1) Fd1, RNG r 0 nvs.length 1, CEL (b.heap.objs.size + 1) (some (.ref nma)), RAW nma nvs]) (by cell_end 9 0 0) ?_
  refine G_spec (cs₀ := [RAW sa zs, LSX ba ys ((swp P).map pairD) Hb]) (rest := [DAT (.ref d3) (goneD held3 rs3) Fd3, DAT (.ref d2) (goneD held1 rs1) Fd2, LSX pra pvs (P.map pairD) Fp, TAB 873 ps, DAT (.ref d1) (goneD held1 rs1) Fd1, RNG r 0 nvs.length 1, CEL (b.heap.objs.size + 1) (some (.ref nma)), RAW nma nvs]) (sp_chains w sa ba zs ys _ (swp P) Hb hzs (by omega) (by unfold swp; rw [List.length_map]; omega) hdf) (hA.le (by decide)) (fun _ _ => trivial) ?_
  rintro v cs ⟨d4, Fd4, h4, n4, rs4, hp4, hpw4, hr4, rfl, rfl⟩
  have e34 : goneD held3 rs3 = goneD (!(left (swp P) h4 n4).isEmpty) rs4 := by rw [hh3]; exact hr3.data hr4 ((hk2.symm).trans hp4.symm)
  have hf3 : Fine 3 (goneD held3 rs3) := gone_fine fun q hq x hx => hdf x (hk2.mem_iff.mpr (hr3.mem q hq x hx))
  rw [← e34]
  refine G_perm (cs' := [DAT (.ref d4) (goneD held3 rs3) Fd4, DAT (.ref d3) (goneD held3 rs3) Fd3, TAB 873 ps, RAW sa zs, LSX ba ys ((swp P).map pairD) Hb, DAT (.ref d2) (goneD held1 rs1) Fd2, LSX pra pvs (P.map pairD) Fp, DAT (.ref d1) (goneD held1 rs1) Fd1, RNG r 0 nvs.length 1, CEL (b.heap.objs.size + 1) (some (.ref nma)), RAW nma nvs]) (by cell_end 9 0 0) ?_
  refine G_sub (cs' := [DAT (.ref d4) (goneD held3 rs3) Fd4, DAT (.ref d3) (goneD held3 rs3) Fd3, TAB 873 ps]) (.cons_cons _ (.cons_cons _ (.cons_cons _ (List.nil_sublist _)))) ?_
  refine G_eqD (da := goneD held3 rs3) (db := goneD held3 rs3) (fun s S => ⟨_, (S.own (DAT (.ref d3) (goneD held3 rs3) Fd3) (by cell_end 7 0 0)).1.2⟩) (fun s S => ⟨_, (S.own (DAT (.ref d4) (goneD held3 rs3) Fd4) (by cell_end 7 0 0)).1.2⟩) (hf3.shaped (by decide)) (hf3.shaped (by decide)) hA.cmp ?_
  rw [SeqAt.eqv_refl _ hf3.1]
  cell_end 5 0 0
  exact Out.ret (cs₁ := [TAB 873 ps]) (junk := [DAT (.ref d4) (goneD held3 rs3) Fd4, DAT (.ref d3) (goneD held3 rs3) Fd3]) (List.perm_append_comm (l₁ := [TAB 873 ps])) ⟨rfl, ps, rfl⟩
end
end
section
open PySem PySem.W PyProof.Rows PySem.Calls
section
theorem ok_law (w : World) : FnOk (KT w) 927 fd_law ns_law gs_law := fnOk_of (at_law w) (by kernel_rfl!)
theorem RowsOk.small {R : List (List Str)} (h : RowsOk R) : Small R := ⟨by have := h.len.1; omega, fun r hr => by
  have ro := rowOk_of ⟨(h.six r hr).1, (h.six r hr).2.1⟩
  exact ⟨ro.len, ro.short⟩⟩
theorem RowsOk.line {R : List (List Str)} (h : RowsOk R) : (lineOf R).length ≤ 1000000 := by
  unfold lineOf
  refine Nat.le_trans (join_le (B := 5000) fun y hy => ?_) ?_
  · obtain ⟨r, hr, rfl⟩ := List.mem_map.mp hy
    exact wr_le (h.small.r r hr)
  · have := h.len.1
    rw [List.length_map, show (" " : Str).length = 1 by decide +kernel]
    omega
theorem prs_take (R : List (List Str)) (i : Nat) : (prsOf (R.take i)).length ≤ (prsOf R).length := by
  have : prsOf R = prsOf (R.take i) ++ prsOf (R.drop i) := by
    rw [← List.flatMap_append, List.take_append_drop]
  rw [this, List.length_append]; omega
theorem eq_ne (x : Str) : (x != x) = false := by simp
theorem sp_law (w : World) (a : Addr) (script : List Int) (hl : script.length ≤ 63) :
    SpecX bareGP w (KT w) 12 (.ref 927) ⟨[.ref a], []⟩ (fun h => a ≠ 873 ∧ (E2 fun xs n => h.get? a = some (listO xs n) ∧ Ints xs script)) [TAB 873 #[]] (fun v cs => v = .bool true ∧ ∃ ps, cs = [TAB 873 ps]) .none (fun _ => False) := by
  refine SpecX.of_bodyC (ok_law w) rfl (binds := [("script", .ref a)]) (by kernel_rfl!) rfl (cells := fun L => [("names", L)]) (fun L => by kernel_rfl!) (fun L p hp => by cases List.mem_singleton.mp hp; simp) (fun x hx => by cases List.mem_singleton.mp hx; exact .inl (by kernel_rfl!)) (fun p hp L => (ok_law w).gok p hp L) (vs₀ := [some (.ref a), none, none, none, none, none, none, none, none, none, none, none, none, none]) ⟨rfl, trivial⟩ (cc := fun L => [CEL L none]) (fun L => by kernel_rfl!) ?_
  intro A b hA hFA T hB
  obtain ⟨hne, sxs, sn, hsl, hsi⟩ := hB
  generalize hF0 : feet _ = F0
  have haF : a ∉ F0 := fun q => by
    rw [← hF0] at q
    exact hne (List.mem_singleton.mp q)
  clear hF0
  have hR := rows_ok script
  refine G_sub (cs' := [CEL (b.heap.objs.size + 1) none, TAB 873 #[]]) (.refl _) ?_
  refine letG ?_
  intro fm Q0
  refine G_cons ?_
  cell_end 5 0 0
  refine G_crN (by kernel_rfl!) ?_ (by k_dflt rfl)
  cell_end 5 0 0
  refine G_spec (cs₀ := []) (rest := [CEL (b.heap.objs.size + 1) none, TAB 873 #[]]) (sp_rows w a script hl) (hA.le (by decide)) (fun s S => ⟨sxs, sn, S.keep hsl haF (fun _ _ q => nomatch q), hsi⟩) ?_
  rintro v cs ⟨F1, rfl⟩
  generalize rowsOf script = R at hR
  have hRl := hR.len
  cell_end 1 0 0
  cell_end 1 0 0
  refine G_sub (cs' := [DAT v (.list (R.map rowD)) F1, CEL (b.heap.objs.size + 1) none, TAB 873 #[]]) (.refl _) ?_
  refine G_open fun ra rxs H he1 he2 => ?_
  subst he1 he2
  refine G_know (P := rxs.length = R.length) (fun s S => by have := lsx_len (.head _) S; rwa [List.length_map] at this) fun hrl => ?_
  refine G_cons ?_
  refine G_AssignLC (cl := []) ["row"] [] ?_ (by k_dflt rfl) (scOk_of (by kernel_rfl!)) (by k_dflt rfl) (by k_dflt rfl) (by decide +kernel)
  cell_end 5 0 0
  let Z21 : List Value → List HP → Prop := fun ys cs => Strs ys (R.map (Txt.join "'")) ∧ cs = [LSX ra rxs (R.map rowD) H, CEL (b.heap.objs.size + 1) none, TAB 873 #[]]
  let J21 : Addr → Nat → List Value → Vals → List HP → Prop := fun C j ys vs cs => ∃ o, A3 (vs = [o]) (Strs ys ((R.take j).map (Txt.join "'"))) (cs = [LSX ra rxs (R.map rowD) H, CEL (b.heap.objs.size + 1) none, TAB 873 #[]])
  refine ⟨Z21, _, _, _, J21, ⟨Src.list hA.handled ra rxs, by rw [hrl]; exact szl (by omega), fun s S => isList_of (S.lsx (by cell_end 7 0 0)), fun C => ⟨none, rfl, .nil, rfl⟩, ?_, ?_, ?_⟩, ?_⟩
  · rintro C b' j ys vs cs s - ⟨o, rfl, _, rfl⟩ S
    exact isList_of (S.lsx (by cell_end 7 0 0))
  · rintro C b' j v ys vs cs Y X hb hj hv ⟨o, rfl, hys, rfl⟩
    obtain ⟨r, hr⟩ : ∃ r, R[j]? = some r := ⟨_, List.getElem?_eq_getElem (by rw [← hrl]; exact hj)⟩
    have htk : R.take (j + 1) = R.take j ++ [r] := by rw [List.take_add_one, hr]; rfl
    have hrm := List.mem_of_getElem? hr
    have hro := rowOk_of ⟨(hR.six r hrm).1, (hR.six r hrm).2.1⟩
    refine letG ?_
    intro fm2 Q2
    refine G_sub (cs' := [LSX ra rxs (R.map rowD) H, CEL (b.heap.objs.size + 1) none, TAB 873 #[], Y, X]) (.refl _) ?_
    refine G_know (P := ∃ rb, v = .ref rb) (fun s S => by obtain ⟨rb, _, _, e, _⟩ := lsxRow (by cell_end 7 0 0) hv hr s S; exact ⟨rb, e⟩) ?_
    rintro ⟨rb, rfl⟩
    cell_end 5 0 0
    cell_end 6 0 0
    cell_end 5 0 0
    refine ⟨str_ty, ?_⟩
    cell_end 5 0 0
    refine G_joinS (xs := r) (fun s S => by obtain ⟨rb', ys', _, e, h1, h2, _⟩ := lsxRow (by cell_end 7 0 0) hv hr s S; cases e; exact ⟨ys', h1, h2⟩) (join_fit (B := 64) (n := 64) (fun y hy => hro.short y hy) hro.len (by decide)) fun tj => ?_
    refine ⟨[LSX ra rxs (R.map rowD) H, CEL (b.heap.objs.size + 1) none, TAB 873 #[]], .refl _, _, rfl, ?_, rfl⟩
    rw [htk, List.map_append]
    exact hys.append (.cons .nil)
  · rintro C ys vs cs ⟨o, rfl, hys, rfl⟩
    rw [hrl, List.take_length] at hys
    exact ⟨hys, rfl⟩
  · rintro ta tvs cs ⟨htv, rfl⟩
    cell_end 1 0 0
    cell_end 1 0 0
    cell_end 5 0 0
    refine G_crN (by kernel_rfl!) ?_ (by k_dflt rfl)
    cell_end 5 0 0
    refine G_perm (cs' := [TAB 873 #[]] ++ [RAW ta tvs, LSX ra rxs (R.map rowD) H, CEL (b.heap.objs.size + 1) none]) (by cell_end 9 0 0) ?_
    refine G_specP (cs₀ := [TAB 873 #[]]) (sp_join w ta R hR.six (by omega)) (hA.le (by decide)) (fun s S => ?_) ?_
    · obtain ⟨o, ho, n, rfl⟩ := (S.own (RAW ta tvs) (.tail _ (.head _))).1
      refine ⟨fun q => ?_, tvs, n, ho, htv⟩
      exact (List.pairwise_cons.mp S.apart).1 (RAW ta tvs) (.head _) 873 (.head _) (by rw [← q]; exact .head _)
    rintro v cs ⟨ps, tl, rfl, rfl⟩
    cell_end 1 0 0
    cell_end 1 0 0
    refine G_perm (cs' := [RAW ta tvs, LSX ra rxs (R.map rowD) H, TAB 873 ps, CEL (b.heap.objs.size + 1) none]) (by cell_end 9 0 0) ?_
    cell_end 5 0 0
    refine G_crN (by kernel_rfl!) ?_ (by k_dflt rfl)
    cell_end 5 0 0
    refine G_spec (cs₀ := []) (rest := [RAW ta tvs, LSX ra rxs (R.map rowD) H, TAB 873 ps, CEL (b.heap.objs.size + 1) none]) (sp_line w ra R hR.small) (hA.le (by decide)) (fun s S => ⟨_, (LSX.dat (S.own (LSX ra rxs (R.map rowD) H) (.tail _ (.head _))).1).2⟩) ?_
    rintro v cs ⟨rfl, tl2, rfl⟩
    refine G_sub (cs' := [RAW ta tvs, LSX ra rxs (R.map rowD) H, TAB 873 ps, CEL (b.heap.objs.size + 1) none]) (.refl _) ?_
    refine G_neS ?_
    rw [eq_ne]
    cell_end 5 0 0
    refine G_crN (by kernel_rfl!) ?_ (by k_dflt rfl)
    cell_end 5 0 0
    have htx : ((R.map fun r => sg (Txt.join "'" r)).map tx) = R.map (Txt.join "'") := by
      rw [List.map_map]
      exact List.map_congr_left fun r _ => tx_sg _
    have htok : ∀ x ∈ R.map (Txt.join "'"), PyData.strOk x = true := fun x hx => by
      obtain ⟨r, hr, rfl⟩ := List.mem_map.mp hx
      exact join_fine fun x hx => six_fine ((hR.six r hr).1 x hx)
    refine G_specX (cs₀ := []) (rest := [RAW ta tvs, LSX ra rxs (R.map rowD) H, TAB 873 ps, CEL (b.heap.objs.size + 1) none]) (sp_split bareGP w (lineOf R) tl (R.map fun r => sg (Txt.join "'" r)) hR.line (lex_line fun r hr => ⟨(hR.six r hr).1, (hR.six r hr).2.2⟩) (by rw [List.length_map]; omega)) hA hFA (fun _ _ => trivial) ?_
    rintro v cs ⟨sd, svs, rfl, hsv, rfl⟩
    rw [htx] at hsv
    refine G_sub (cs' := [RAW sd svs, RAW ta tvs, LSX ra rxs (R.map rowD) H, TAB 873 ps, CEL (b.heap.objs.size + 1) none]) (.refl _) ?_
    cell_end 5 0 0
    refine G_neD (da := strsD (R.map (Txt.join "'"))) (db := strsD (R.map (Txt.join "'"))) (raw_rx (by cell_end 7 0 0) hsv) (raw_rx (by cell_end 7 0 0) htv) ((fine_strs htok).shaped (k := 1) (by decide)) ((fine_strs htok).shaped (k := 1) (by decide)) hA.cmp ?_
    rw [eqv_strs, beq_self_eq_true]
    refine G_drop ?_
    cell_end 1 0 0
    cell_end 1 0 0
    cell_end 1 0 0
    cell_end 1 0 0
    cell_end 1 0 0
    cell_end 1 0 0
    cell_end 1 0 0
    refine G_AssignC ?_ (by rfl)
    cell_end 5 0 0
    refine G_newListR (szl (by decide)) fun nma => ?_
    refine G_perm (cs' := [CEL (b.heap.objs.size + 1) none, RAW nma [], RAW ta tvs, LSX ra rxs (R.map rowD) H, TAB 873 ps]) (by cell_end 9 0 0) ?_
    refine G_storeCell (by rfl) (by rfl) ?_
    cell_end 5 0 0
    refine G_newListR (szl (by decide)) fun pra => ?_
    cell_end 1 0 0
    cell_end 1 0 0
    refine G_emp ?_
    refine G_perm (cs' := [CEL (b.heap.objs.size + 1) (some (.ref nma)), RAW nma [], RAW pra [], ALL [] [] [], RAW ta tvs, LSX ra rxs (R.map rowD) H, TAB 873 ps]) (by cell_end 9 0 0) ?_
    cell_end 5 0 0
    refine G_For ?_
    cell_end 5 0 0
    refine G_len (fun s S => isList_of (S.lsx (by cell_end 7 0 0))) (by rw [hrl]; omega) fun tn => ?_
    rw [hrl]
    cell_end 5 0 0
    refine G_range1 fun r => ?_
    let J1 : Nat → Vals → List HP → Prop := fun i vs cs => E5 fun nvs pvs F kv dv => A4 (vs = [some (.ref a), some (.ref ra), some (.ref ta), some (.str (lineOf R) tl), some (.ref pra), kv, dv, none, none, none, none, none, none, none]) (Strs nvs (restsOf (R.take i))) (pvs.length = (prsOf (R.take i)).length) (cs = [RNG r 0 R.length 1, CEL (b.heap.objs.size + 1) (some (.ref nma)), RAW nma nvs, RAW pra pvs, ALL pvs ((prsOf (R.take i)).map pairD) F, RAW ta tvs, LSX ra rxs (R.map rowD) H, TAB 873 ps])
    refine ⟨_, _, _, J1, Src.range (a := 0) (b := R.length) (c := 1) hA.handled (small_one (by omega)), ⟨[], [], [], none, none, rfl, .nil, rfl, rfl⟩, ?_, ?_, ?_⟩
    · rintro i vs cs s ⟨nvs, pvs, F, kv, dv, rfl, _, _, rfl⟩ S
      exact sitRng (.head _) s S
    · rintro i v vs cs X hi ⟨tk, rfl⟩ ⟨nvs, pvs, F, kv, dv, rfl, hnv, hpl, rfl⟩
      rw [range_one] at hi
      obtain ⟨row, hr⟩ : ∃ row, R[i]? = some row := ⟨_, List.getElem?_eq_getElem hi⟩
      have hrm := List.mem_of_getElem? hr
      have hsix := (hR.six row hrm).1
      have hro := rowOk_of ⟨hsix, (hR.six row hrm).2.1⟩
      have htk : R.take (i + 1) = R.take i ++ [row] := by rw [List.take_add_one, hr]; rfl
      obtain ⟨rv, hrv⟩ : ∃ rv, rxs[i]? = some rv := ⟨_, List.getElem?_eq_getElem (by rw [hrl]; exact hi)⟩
      refine G_sub (cs' := [RNG r 0 R.length 1, CEL (b.heap.objs.size + 1) (some (.ref nma)), RAW nma nvs, RAW pra pvs, ALL pvs ((prsOf (R.take i)).map pairD) F, RAW ta tvs, LSX ra rxs (R.map rowD) H, TAB 873 ps, X]) (.refl _) ?_
      refine G_know (P := ∃ rb, rv = .ref rb) (fun s S => by obtain ⟨rb, _, _, e, _⟩ := lsxRow (by cell_end 7 0 0) hrv hr s S; exact ⟨rb, e⟩) ?_
      rintro ⟨rb, rfl⟩
      have hik : ((0 : Int) + (i : Int) * 1).toNat = i := by omega
      cell_end 5 0 0
      refine G_crN (by kernel_rfl!) ?_ (by k_dflt rfl)
      cell_end 5 0 0
      refine G_item (fun s S => isList_of (S.lsx (by cell_end 7 0 0))) (by omega) (by omega) (by rw [hik]; exact hrv) ?_
      cell_end 5 0 0
      refine G_spec (cs₀ := []) (rest := [RNG r 0 R.length 1, CEL (b.heap.objs.size + 1) (some (.ref nma)), RAW nma nvs, RAW pra pvs, ALL pvs ((prsOf (R.take i)).map pairD) F, RAW ta tvs, LSX ra rxs (R.map rowD) H, TAB 873 ps, X]) (sp_due w rb row hro) (hA.le (by decide)) (fun s S => by
        obtain ⟨rb', _, H', e, _, _, h2⟩ := lsxRow (fm := _) (vs := _) (cs := [RNG r 0 R.length 1, CEL (b.heap.objs.size + 1) (some (.ref nma)), RAW nma nvs, RAW pra pvs, ALL pvs ((prsOf (R.take i)).map pairD) F, RAW ta tvs, LSX ra rxs (R.map rowD) H, TAB 873 ps, X]) (by cell_end 7 0 0) hrv hr s S
        cases e
        exact ⟨H', h2⟩) ?_
      rintro dv cs ⟨Fd, rfl⟩
      cell_end 1 0 0
      cell_end 1 0 0
      refine G_sub (cs' := [DAT dv (dueD row) Fd, RNG r 0 R.length 1, CEL (b.heap.objs.size + 1) (some (.ref nma)), RAW nma nvs, RAW pra pvs, ALL pvs ((prsOf (R.take i)).map pairD) F, RAW ta tvs, LSX ra rxs (R.map rowD) H, TAB 873 ps, X]) (.refl _) ?_
      cell_end 5 0 0
      refine G_crN (by kernel_rfl!) ?_ (by k_dflt rfl)
      cell_end 5 0 0
      have htr : (R.map (Txt.join "'"))[i]? = some (Txt.join "'" row) := by rw [List.getElem?_map, hr]; rfl
      obtain ⟨tt, htt⟩ := htv.getD htr
      refine G_item (sitRaw (by cell_end 7 0 0)) (by omega) (by omega) (by rw [hik]; exact htt) ?_
      cell_end 5 0 0
      refine G_spec (cs₀ := []) (rest := [DAT dv (dueD row) Fd, RNG r 0 R.length 1, CEL (b.heap.objs.size + 1) (some (.ref nma)), RAW nma nvs, RAW pra pvs, ALL pvs ((prsOf (R.take i)).map pairD) F, RAW ta tvs, LSX ra rxs (R.map rowD) H, TAB 873 ps, X]) (sp_read w row tt hro) (hA.le (by decide)) (fun _ _ => trivial) ?_
      rintro rdv cs ⟨Fr, rfl⟩
      refine G_sub (cs' := [DAT rdv (dueD row) Fr, DAT dv (dueD row) Fd, RNG r 0 R.length 1, CEL (b.heap.objs.size + 1) (some (.ref nma)), RAW nma nvs, RAW pra pvs, ALL pvs ((prsOf (R.take i)).map pairD) F, RAW ta tvs, LSX ra rxs (R.map rowD) H, TAB 873 ps, X]) (.refl _) ?_
      cell_end 5 0 0
      refine G_neD (da := dueD row) (db := dueD row) (fun s S => ⟨_, (S.own (DAT rdv (dueD row) Fr) (by cell_end 7 0 0)).1.2⟩) (fun s S => ⟨_, (S.own (DAT dv (dueD row) Fd) (by cell_end 7 0 0)).1.2⟩) ((due_fine hsix).shaped (by decide)) ((due_fine hsix).shaped (by decide)) hA.cmp ?_
      rw [SeqAt.eqv_refl _ (due_fine hsix).1]
      refine G_drop ?_
      cell_end 1 0 0
      cell_end 1 0 0
      cell_end 1 0 0
      cell_end 1 0 0
      unfold dueD tailD
      refine G_openT2 fun d x1 x2 D1 D2 hdv => ?_
      subst hdv
      refine G_p1 ?_
      refine G_open fun la lvs HL h1 h2 => ?_
      subst h1 h2
      refine G_know (P := lvs.length = (pairsOf row).length) (fun s S => by have := lsx_len (.head _) S; rwa [List.length_map] at this) fun hll => ?_
      refine G_apart ?_
      have hpc := pairs_count row
      have hpt : pvs.length ≤ 7 := by rw [hpl]; exact Nat.le_trans (prs_take R i) hRl.2.1
      have hrl64 := hro.len
      cell_end 5 0 0
      refine G_m1 PySem.F.slot_list_extend PySem.F.type_list_extend PySem.F.plainAttrs_list ?_ (by k_dflt rfl) (by k_dflt rfl) (by k_dflt rfl)
      cell_end 5 0 0
      refine ⟨rawTy (by cell_end 7 0 0), ?_⟩
      cell_end 5 0 0
      refine G_itemT (j := 0) (sitTup (by cell_end 7 0 0)) (by decide) (by decide) rfl rfl ?_
      cell_end 5 0 0
      refine G_perm (cs' := [RAW pra pvs, RAW la lvs, ALL pvs ((prsOf (R.take i)).map pairD) F, ALL lvs ((pairsOf row).map pairD) HL, TUP d [.ref la, x2], DAT x2 (.tuple [.none, .none, .str (Txt.join "'" (restOf row))]) D2, RNG r 0 R.length 1, CEL (b.heap.objs.size + 1) (some (.ref nma)), RAW nma nvs, RAW ta tvs, LSX ra rxs (R.map rowD) H, TAB 873 ps, X]) (by cell_end 9 0 0) ?_
      refine G_extendR (ys := lvs) (fun s S => (S.own (RAW la lvs) (by cell_end 7 0 0)).1) (szl (by omega)) ?_
      refine ⟨fun _ q => (nomatch q), ?_⟩
      cell_end 1 0 0
      refine G_p1 (G_drop ?_)
      refine G_perm (cs' := [ALL pvs ((prsOf (R.take i)).map pairD) F, ALL lvs ((pairsOf row).map pairD) HL, TUP d [.ref la, x2], DAT x2 (.tuple [.none, .none, .str (Txt.join "'" (restOf row))]) D2, RNG r 0 R.length 1, CEL (b.heap.objs.size + 1) (some (.ref nma)), RAW nma nvs, RAW pra (pvs ++ lvs), RAW ta tvs, LSX ra rxs (R.map rowD) H, TAB 873 ps, X]) (by cell_end 9 0 0) ?_
      refine G_allApp ?_
      refine G_know (P := ∃ t2, x2 = .ref t2) (fun s S => by obtain ⟨t2, _, e, _⟩ := datTail (x := Txt.join "'" (restOf row)) (F := D2) (by cell_end 7 0 0) s S; exact ⟨t2, e⟩) ?_
      rintro ⟨t2, rfl⟩
      cell_end 5 0 0
      cell_end 6 0 0
      cell_end 5 0 0
      refine ⟨rawTy (by cell_end 7 0 0), ?_⟩
      cell_end 5 0 0
      refine G_itemT (j := 1) (sitTup (by cell_end 7 0 0)) (by decide) (by decide) rfl rfl ?_
      cell_end 5 0 0
      refine G_itemTs (by decide) (by decide) (fun s S => ?_)
      obtain ⟨t2', tt2, e, ht⟩ := datTail (x := Txt.join "'" (restOf row)) (F := D2) (by cell_end 7 0 0) s S
      cases e
      refine ⟨[.none, .none, .str (Txt.join "'" (restOf row)) tt2], 2, _, ht, rfl, rfl, ?_⟩
      cell_end 5 0 0
      refine G_perm (cs' := [RAW nma nvs, ALL (pvs ++ lvs) ((prsOf (R.take i)).map pairD ++ (pairsOf row).map pairD) (F ++ HL), TUP d [.ref la, .ref t2], DAT (.ref t2) (.tuple [.none, .none, .str (Txt.join "'" (restOf row))]) D2, RNG r 0 R.length 1, CEL (b.heap.objs.size + 1) (some (.ref nma)), RAW pra (pvs ++ lvs), RAW ta tvs, LSX ra rxs (R.map rowD) H, TAB 873 ps, X]) (by cell_end 9 0 0) ?_
      refine G_appendR (szl (by rw [hnv.length, List.length_map, List.length_take]; omega)) ?_
      refine ⟨fun _ q => (nomatch q), ?_⟩
      cell_end 1 0 0
      refine G_perm (cs' := [TUP d [.ref la, .ref t2], DAT (.ref t2) (.tuple [.none, .none, .str (Txt.join "'" (restOf row))]) D2, RNG r 0 R.length 1, CEL (b.heap.objs.size + 1) (some (.ref nma)), RAW nma (nvs ++ [.str (Txt.join "'" (restOf row)) tt2]), RAW pra (pvs ++ lvs), ALL (pvs ++ lvs) ((prsOf (R.take i)).map pairD ++ (pairsOf row).map pairD) (F ++ HL), RAW ta tvs, LSX ra rxs (R.map rowD) H, TAB 873 ps, X]) (by cell_end 9 0 0) ?_
      refine G_drop (G_drop ?_)
      cell_end 5 0 0
      have hpr : prsOf (R.take (i + 1)) = prsOf (R.take i) ++ pairsOf row := by
        rw [htk]
        show (R.take i ++ [row]).flatMap pairsOf = _
        rw [List.flatMap_append]; simp
      refine ⟨[RNG r 0 R.length 1, CEL (b.heap.objs.size + 1) (some (.ref nma)), RAW nma (nvs ++ [.str (Txt.join "'" (restOf row)) tt2]), RAW pra (pvs ++ lvs), ALL (pvs ++ lvs) ((prsOf (R.take i)).map pairD ++ (pairsOf row).map pairD) (F ++ HL), RAW ta tvs, LSX ra rxs (R.map rowD) H, TAB 873 ps], .refl _, nvs ++ [.str (restT row) tt2], pvs ++ lvs, F ++ HL, _, _, rfl, ?_, ?_, ?_⟩
      · show Strs _ ((R.take (i + 1)).map restT)
        rw [htk, List.map_append]
        exact hnv.append (.cons .nil)
      · rw [hpr, List.length_append, List.length_append, hpl, hll]
      · rw [hpr, List.map_append]; rfl
    · rintro vs cs ⟨nvs, pvs, F, kv, dv, rfl, hnv, hpl, rfl⟩
      rw [range_one, List.take_length] at hnv hpl
      rw [range_one, List.take_length]
      cell_end 1 0 0
      refine G_perm (cs' := [RNG r 0 R.length 1, RAW ta tvs, LSX ra rxs (R.map rowD) H, RAW pra pvs, ALL pvs ((prsOf R).map pairD) F, CEL (b.heap.objs.size + 1) (some (.ref nma)), RAW nma nvs, TAB 873 ps]) (by cell_end 9 0 0) ?_
      refine G_drop (G_drop (G_drop ?_))
      refine G_pair ?_
      refine G_perm (cs' := [CEL (b.heap.objs.size + 1) (some (.ref nma)), RAW nma nvs, LSX pra pvs ((prsOf R).map pairD) F, TAB 873 ps]) (by cell_end 9 0 0) ?_
      exact law_rest w A F0 b hA hFA R hR _ _ _ _ pra nma kv dv nvs pvs F ps hnv hpl
end
end
section
open PySem PySem.W PyProof.Rows PySem.Calls
section
theorem ints_of {P : Params} {h : Heap} {R : WRecords} : ∀ {ds : List WData} {vs : List Value}, WShape.hasItems R ds .int = true → WellAll P h vs ds → ∃ ns, ds = ns.map .int ∧ Ints vs ns
  | [], vs, _, w => by cases w; exact ⟨[], rfl, .nil⟩
  | d :: ds, vs, x, w => by
    have x' : WShape.has R d .int = true ∧ WShape.hasItems R ds .int = true := by simpa [WShape.hasItems] using x
    obtain ⟨i, rfl⟩ := hasW_int x'.1
    cases w with
    | cons w1 w2 =>
      cases w1
      obtain ⟨ns, rfl, h2⟩ := ints_of x'.2 w2
      exact ⟨i :: ns, rfl, .cons h2⟩
theorem pre_len {R : WRecords} {ds : List WData} (h : (PySem.Challenge.rw_ny0433_01.row.toRowW.pre).holds R { args := [.list ds] } = true) : ds.length ≤ 63 := by
  have k : ∀ b : Bool, WTm.holds R (.and (.not (.lit (.bool b))) (.lit (.bool true))) { args := [.list ds] } = !b := fun b => by cases b <;> rfl
  have e : (PySem.Challenge.rw_ny0433_01.row.toRowW.pre).holds R { args := [.list ds] } = WTm.holds R (.and (.not (.lit (.bool (decide ((63 : Int) < (ds.length : Int)))))) (.lit (.bool true))) { args := [.list ds] } := by kernel_rfl
  rw [e, k, Bool.not_eq_true'] at h
  have := of_decide_eq_false h
  omega
theorem post_true {R : WRecords} {e : WCtx} (h : e.res = some (.bool true)) : (PySem.Challenge.rw_ny0433_01.row.toRowW.post).value R e = some (.bool true) := by
  cases e
  cases h
  kernel_rfl
theorem kIn_L {P : Params} {h : Heap} (X : (KX P).In h) : (KL P).In h := fun a o e => X a o (by
  have ha : a ≠ 873 := fun q => by subst q; rw [show (KL P).lookup 873 = none by kernel_rfl!] at e; cases e
  show List.lookup a ((873, tabO #[]) :: KL P) = some o
  rw [List.lookup_cons, show (a == 873) = false from beq_eq_false_iff_ne.mpr ha]
  exact e)
theorem rm_caller : Rm callerA 12 := ⟨rfl, by decide +kernel, by decide +kernel⟩
theorem finish {view : Program} {loose : List Str} {XP : (Str → Option Value) → Heap → Prop} {w : World} {s₀ s₁ : Shared} {mg mb : Str → Option Value} (G : Ground view loose PySem.Challenge.rw_ny0433_01.row.records XP w s₀ mg mb s₁.heap) (X : (KX w.params).In s₁.heap) {fa : Addr} (hmg : mg "law" = some (.ref fa)) (hg : s₁.gens = #[])
    {args : List WData} {vals : List Value} (hpre : PySem.Challenge.rw_ny0433_01.row.claim.pre args = true) (hwl : WellAll w.params s₁.heap vals args) :
    wpAny (model PySem.Challenge.rw_ny0433_01.row.prog w) callerA ((fun f vs => call f vs) (Value.ref fa) vals)
      (fun v s' => GoodWG PySem.Challenge.rw_ny0433_01.row.claim (classAt s₀.heap) (ExcName.means s₀.heap) args s₁ (Except.ok (Flow.ret v)) s')
      (fun e s' => GoodWG PySem.Challenge.rw_ny0433_01.row.claim (classAt s₀.heap) (ExcName.means s₀.heap) args s₁ (Except.error e) s') s₁ := by
  have XL := kIn_L X
  have hfa : fa = 927 := by
    have := mg_of XL G.T.g (n := "law") (v := .ref 927) (by kernel_rfl!)
    rw [hmg] at this
    cases this; rfl
  subst hfa
  have T : TP (KT w) s₁.heap := ⟨XL, G.T.nolimit, ⟨mb, G.T.b, G.T.builtins⟩, ⟨mg, G.T.g⟩⟩
  obtain ⟨h1, h2⟩ := pre_splitW hpre
  obtain ⟨d, r, rfl, h3, h4⟩ := hasAllW_cons h1
  have hr := hasAllW_nil h4
  subst hr
  obtain ⟨ds, rfl, h5⟩ := hasW_list h3
  have hlen := pre_len h2
  cases hwl with
  | cons w1 w2 =>
    cases w2
    cases w1 with
    | @list a vs xs e wl =>
      obtain ⟨ns, rfl, hns⟩ := ints_of h5 wl
      rw [List.length_map] at hlen
      have e873 : s₁.heap.get? 873 = some (tabO #[]) := X 873 _ rfl
      have hne : a ≠ 873 := fun q => by
        subst q
        rw [e] at e873
        cases e873
      have hF : Free (KT w) 873 := ⟨by kernel_rfl!, by decide, by decide, by decide⟩
      have own : Own (KT w) (frOf callerA) [TAB 873 #[]] s₁.heap := ⟨fun c hc => by
        cases List.mem_singleton.mp hc
        refine ⟨⟨_, e873, rfl⟩, fun x hx => ?_⟩
        cases List.mem_singleton.mp hx
        exact ⟨hF, fun q => (by cases q)⟩, List.pairwise_singleton _ _⟩
      have Z := sp_law w a ns hlen callerA s₁ rm_caller ⟨[], rfl, fun e he => (nomatch he)⟩ T (fun x hx => (by cases hx)) (show AllBare s₁.gens by rw [hg]; exact fun y hy => (by simp at hy)) ⟨hne, vs, 0, e, hns⟩ own
      refine wpAny_call (codeAny_mono Z fun rs s' z => ?_)
      rcases z with ⟨v, cs₁, rfl, St, rfl, ps, rfl⟩ | ⟨_, _, _, _, _, q, _⟩
      · have hk : ∀ b o, s₁.heap.get? b = some o → b ≠ 873 → s'.heap.get? b = some o := fun b o q hb => St.ext b o q (fun z => hb (List.mem_singleton.mp z)) (fun z => nomatch z)
        have e873' : s'.heap.get? 873 = some (tabO ps) := by
          obtain ⟨o, ho, rfl⟩ := (St.own _ (.head _)).1
          exact ho
        refine ⟨.inl ⟨.bool true, .bool true, [], rfl, fun _ => rfl, .bool true, postW_of (X := true) rfl (post_true rfl) rfl, fun _ => ⟨List.nodup_nil, fun _ q => (nomatch q)⟩⟩, ⟨fun b o q => ?_, fun b o q => ?_⟩, St.os, St.gens (show AllBare s₁.gens by rw [hg]; exact fun y hy => (by simp at hy))⟩
        · by_cases hb : b = 873
          · subst hb
            rw [e873] at q
            cases q
            refine .inr (.inl ⟨?_, rfl, #[], ps, rfl, ?_⟩)
            · exact ⟨877, ob877 w.params, _, XL 877 _ (by kernel_rfl!), rfl, rfl, rfl⟩
            · rw [e873']; simp
          · exact .inl (hk b o q hb)
        · by_cases hb : b = 873
          · subst hb; exact ⟨_, e873'⟩
          · exact ⟨o, hk b o q hb⟩
      · exact q.elim
end
end
end Mine
set_option maxRecDepth 100000 in
set_option maxHeartbeats 8000000 in
theorem PySem.Challenge.cw_ny0433_01_holds : PySem.Challenge.rw_ny0433_01.Holds := by
  refine holds_law Mine.said (fun _ => ?_)
  refine holds_open (q := Mine.qv) (loose := Mine.looseL) (Xt := Mine.XtL) (XP := XL Mine.qv []) (Yf := Mine.HK.obs) (Ya := Mine.HK.val) (YP := Mine.HK.says) (N := 12472) Mine.head_left Mine.HK.of Mine.HK.keeps (fun s e => xl_of s (Bool.and_eq_true_iff.mp e).1) XL.keeps (by rfl) (by rfl) (by rfl) (fun s e => recFacts_of (Bool.and_eq_true_iff.mp e).2) (by rfl) (row_said Mine.said) (by decide +kernel) ⟨rfl, rfl, rfl, rfl, rfl, by decide +kernel⟩ ?hw ?hc
  case hw => w_witness2
  intro w s₀ s₁ mg mb G Y fa o pm cd doc dV kV ho hd hcd hD hmg hg args vals as hpre hlay hrd hwl hlo
  exact Mine.finish G (kIn_of Y) hmg hg hpre hwl
