import JvmDerived
import JvmDerived.Pilot.@@N@@Statement
import JvmDerived.Pilot.@@N@@Code
set_option linter.unusedVariables false
set_option linter.unusedSimpArgs false


namespace Jvm.RoadKit
open Sem ClassFile Op Lib Jvm.Stand Jvm.Free Jvm.LawKit
section Own
variable {Z : State} {h h0 h' : Heap} {a b : Addr} {k : ClassId} {n j : Int32} {vs : List Value} {dv : Value}
theorem Arv.inb {ty : FieldType} (A : Arv Z h a k ty n vs dv) (h1 : ¬ j < 0) (h2 : j < n) : ∃ c, Arr Z h a c ty ∧ c.cls = k ∧ c.slots.size = n.toNatClampNeg ∧ ¬ n < 0 ∧ Has c vs dv ∧ (∀ i, i < c.slots.size → fits ty (vs.getD i dv) = true) ∧ ¬ (j < 0 ∨ c.slots.size ≤ j.toNatClampNeg) := by
  obtain ⟨c, A1, A2, A3, A4, A5, A6⟩ := A
  exact ⟨c, A1, A2, A3, A4, A5, A6, inb_of A3 ⟨h1, h2⟩⟩
theorem Ext.keepN (E : Ext h0 h) (K : Keep h h' [b]) (q : h0.size ≤ b) : Ext h0 h' := ⟨Nat.le_trans E.1 K.1, fun x c hx => K.2.1 x c (E.2 x c hx) fun z => by
  cases List.mem_singleton.mp z
  exact absurd (Array.getElem?_eq_some_iff.mp hx).1 (Nat.not_lt.mpr q)⟩
theorem Ext.keepL {ws : List Addr} (E : Ext h0 h) (K : Keep h h' ws) (q : ∀ x ∈ ws, h0.size ≤ x) : Ext h0 h' := ⟨Nat.le_trans E.1 K.1, fun x c hx => K.2.1 x c (E.2 x c hx) fun z => absurd (Array.getElem?_eq_some_iff.mp hx).1 (Nat.not_lt.mpr (q x z))⟩
theorem Ext.rfl' : Ext h h := ⟨Nat.le_refl _, fun _ _ q => q⟩
theorem Ext.tr {h1 : Heap} (E : Ext h h1) (E' : Ext h1 h') : Ext h h' := ⟨Nat.le_trans E.1 E'.1, fun x c q => E'.2 x c (E.2 x c q)⟩
theorem Ext.wrN {sl : Nat} {v : Value} (E : Ext h0 h) (W : Wr h h' a sl v) (q : h0.size ≤ a) : Ext h0 h' := E.keepN (Keep.of_wr W) q
end Own
end Jvm.RoadKit

namespace Jvm.OwnKit
open Sem ClassFile Op Lib Jvm.Stand Jvm.Free Jvm.LawKit Jvm.RoadKit
/-- the String constants that the walk has loaded, each with its object (none: not kept) -/
abbrev Sg : Type := Option (List (String × Nat × String × Addr))
def VOk (Z : State) (vm : Vm) : Sg → Prop
  | none => True
  | some L => IB Z vm (L.map fun q => q.2.2.1) ∧ ∀ q ∈ L, Lit (Z.setVm vm) q.1 q.2.1 q.2.2.2
theorem VOk.warm {Z s : State} {vm0 vm1 : Vm} {σ : Sg} (V : VOk Z vm0 σ) (hW : (s.setVm vm0).WarmedH vm1) : VOk Z vm1 σ := by
  cases σ with
  | none => trivial
  | some L =>
    obtain ⟨⟨more, e, hm⟩, hl⟩ := V
    refine ⟨⟨more, ?_, hm⟩, fun q hq => ?_⟩
    · rw [hW.interned_eq]; exact e
    · have h1 : Lit (s.setVm vm0) q.1 q.2.1 q.2.2.2 := hl q hq
      exact Lit.stays h1 hW.wide
/-- the unsigned shifts, the comparing of longs, as the machine spells them -/
abbrev ushr (x y : Int32) : Int32 := (x.toUInt32 >>> (y &&& 31).toUInt32).toInt32
abbrev ushrL (x : Int64) (y : Int32) : Int64 := (x.toUInt64 >>> (y &&& 63).toInt64.toUInt64).toInt64
abbrev cmpL (x y : Int64) : Int32 := if x > y then 1 else if x = y then 0 else -1
/-- the data of one walk of one body -/
abbrev Cx : Type := Program × Launch × Env × Room × State × MethodId × Array Value × List Frame × Method × Code × State × Nat × (Option Value → Heap → Sg → Prop)
/-- from this pc, these locals, this stack and this heap the body comes to its end as promised -/
def Go : Cx → Sg → Heap → Nat → Nat → Nat → Array Slot → List Value → Prop
  | (p, l, e, R, s, m, args, below, meth, c, Z, n0, Q), σ, h, ce, sl, pc, ls, st =>
    ∀ (vm0 : Vm) (k0 : Nat) (T : State) (locs : List Loc), Stand p l e R (s.setVm vm0) m args below meth c T locs ce sl → s.Since vm0 k0 → k0 ≤ h.size → VOk Z vm0 σ → Old Z n0 h → T.heap = h → Fr n0 locs →
      ∃ (s₂ : State) (o : Outcome), Steps p.tables e below (T.setTop (mkF m pc ls st)) s₂ ∧ s₂.status = .running ∧ Ended s₂ below o ∧
        ∃ (v : Option Value) (L : List Loc) (σ' : Sg), o = .returned v ∧ (Fr n0 L ∧ VOk Z s₂.vm σ' ∧ Old Z n0 s₂.heap ∧ Q v s₂.heap σ') ∧ ReturnedEndW s o s₂ L R.cells R.slots
/-- what is known of a walk's data -/
def Amb : Cx → Launch → State → MethodName → ByteArray → Nat → Option FieldType → Room → Heap → Nat → (Option Value → Heap → Sg → Prop) → Prop
  | (p, l', e, R, s, m, args, below, meth, c, Z', n0', Q'), l, Z, y, code, maxL, ret, rm, h0, n0, Q =>
    l' = l ∧ R = rm ∧ Z' = Z ∧ n0' = n0 ∧ (∀ v h σ, Q v h σ → Q' v h σ) ∧ p.tables.exec = Jvm.exec ∧ Z.Warmed39 s.vm ∧ s.vm.findClass y.cls = some m.cls ∧ c.code = code ∧ c.maxLocals = maxL ∧ meth.sig.returnType = ret ∧ meth.locks = false ∧ meth.name = y.name ∧ s.heap = h0
/-- a body's contract -/
def Con (l : Launch) (Z : State) (y : MethodName) (code : ByteArray) (maxL : Nat) (ret : Option FieldType) (rm : Room) (ws : List Jvm.Cond) (as : Array Value) (σ : Sg) (h0 : Heap) (n0 : Nat) (Q : Option Value → Heap → Sg → Prop) : Prop :=
  MetFree l y (head1 (Jvm.Cond.code y code maxL ret :: ws) rm) (fun a U => a = as ∧ Z.Warmed39 U.vm ∧ U.heap = h0 ∧ VOk Z U.vm σ ∧ Old Z n0 U.heap) (fun _ _ _ _ _ => True)
    (fun _ U o U' => ∃ v L σ', o = .returned v ∧ (Fr n0 L ∧ VOk Z U'.vm σ' ∧ Old Z n0 U'.heap ∧ Q v U'.heap σ') ∧ ReturnedEndW U o U' L rm.cells rm.slots)
section Rules
variable {κ : Cx} {l : Launch} {Z : State} {y : MethodName} {code : ByteArray} {maxL : Nat} {ret : Option FieldType} {rm : Room} {ws : List Jvm.Cond} {as a0 : Array Value} {σ : Sg} {h h0 h' : Heap} {n0 : Nat} {Q Q' : Option Value → Heap → Sg → Prop} {ce sl ce' sl' pc pc' pc2 : Nat} {ls ls' : Array Slot} {st st' rest : List Value}
theorem Con.of_go (hpl : plainFor y = true) (hef : ∀ m, entryFrame m as maxL = mkF m 0 ls []) (H : ∀ κ : Cx, Amb κ l Z y code maxL ret rm h0 n0 Q → Go κ σ h0 0 0 0 ls []) : Con l Z y code maxL ret rm ws as σ h0 n0 Q := by
  refine MetFree.of_bodySF hpl hisR ?_
  intro p e s m args below meth c s₁ Bd hml0 hP hK
  obtain ⟨rfl, hZ, hh, hV, hO⟩ := hP
  have X0 : Stand p l e rm s m args below meth c s₁ [] 0 0 := Stand.of_body Bd
  have e0 : s₁.heap = h0 := by rw [← hh, Bd.state]; rfl
  obtain ⟨s₂, o, hst, hr, he, hq⟩ := H (p, l, e, rm, s, m, args, below, meth, c, Z, n0, Q) ⟨rfl, rfl, rfl, rfl, fun _ _ _ q => q, Bd.exec, hZ, findClass_of_methodNamed Bd.named, Bd.bytes, hml0, Bd.returns, BodyLoose.notSynchronized Bd, (name_of_methodNamed Bd.named Bd.method).1, hh⟩ s.vm h0.size s₁ [] X0 ((State.WarmedH.refl s).since _) (Nat.le_refl _) hV (hh ▸ hO) e0 (Fr.nil _)
  exact ⟨s₂, o, castTop (hef m) hst, hr, he, hq⟩
theorem Con.mono (M : Con l Z y code maxL ret rm ws as σ h0 n0 Q) (hq : ∀ v h σ, Q v h σ → Q' v h σ) : Con l Z y code maxL ret rm ws as σ h0 n0 Q' := by
  intro p e a1 a2 a3 s m args below a4 a5 a6 a7
  obtain ⟨n, o, b1, b2, b3, v, L, σ', b4, b5, b6⟩ := M p e a1 a2 a3 s m args below a4 a5 a6 a7
  exact ⟨n, o, b1, b2, b3, v, L, σ', b4, ⟨b5.1, b5.2.1, b5.2.2.1, hq _ _ _ b5.2.2.2⟩, b6⟩
theorem Go.pure (D : Amb κ l Z y code maxL ret rm h0 n0 Q)
    (f : ∀ (p : Program) (e : Env) (below : List Frame) (T t : State) (m : MethodId) (c : Code), p.tables.exec = Jvm.exec → c.code = code → At T m c below → Steps p.tables e below (T.setTop (mkF m pc' ls' st')) t → Steps p.tables e below (T.setTop (mkF m pc ls st)) t)
    (G : Go κ σ h ce sl pc' ls' st') : Go κ σ h ce sl pc ls st := by
  obtain ⟨p, l', e, R, s, m, args, below, meth, c, Z', n0', Q'⟩ := κ
  obtain ⟨rfl, rfl, rfl, rfl, hQ, hx, hZ, hown, hby, hml, hret, hlk, hnm, hh⟩ := D
  intro vm0 k0 T locs X hS hk V O eT N
  obtain ⟨s₂, o, h1, h2⟩ := G vm0 k0 T locs X hS hk V O eT N
  exact ⟨s₂, o, f p e below T s₂ m c hx hby X.here h1, h2⟩
/-- a step that asks the walk's standing, the heap as it was -/
theorem Go.calm (D : Amb κ l Z y code maxL ret rm h0 n0 Q)
    (f : ∀ (p : Program) (e : Env) (s : State) (m : MethodId) (args : Array Value) (below : List Frame) (meth : Method) (c : Code) (T : State) (locs : List Loc), p.tables.exec = Jvm.exec → Z.Warmed39 s.vm → s.vm.findClass y.cls = some m.cls → c.code = code → c.maxLocals = maxL → s.heap = h0 → Stand p l e rm s m args below meth c T locs ce sl → T.heap = h → ∃ T', Stand p l e rm s m args below meth c T' locs ce sl ∧ T'.heap = h ∧ ∀ t, Steps p.tables e below (T'.setTop (mkF m pc' ls' st')) t → Steps p.tables e below (T.setTop (mkF m pc ls st)) t)
    (G : Go κ σ h ce sl pc' ls' st') : Go κ σ h ce sl pc ls st := by
  obtain ⟨p, l', e, R, s, m, args, below, meth, c, Z', n0', Q'⟩ := κ
  obtain ⟨rfl, rfl, rfl, rfl, hQ, hx, hZ, hown, hby, hml, hret, hlk, hnm, hh⟩ := D
  intro vm0 k0 T locs X hS hk V O eT N
  obtain ⟨T', X', eT', k⟩ := f p e (s.setVm vm0) m args below meth c T locs hx (State.Warmed39.trans (t := s) hZ hS.1) (by show vm0.findClass _ = _; rw [hS.1.alike.findClass]; exact hown) hby hml hh X eT
  obtain ⟨s₂, o, h1, h2⟩ := G vm0 k0 T' locs X' hS hk V O eT' N
  exact ⟨s₂, o, k _ h1, h2⟩
/-- what a step may write -/
def Gw (h h' : Heap) (n0 : Nat) : Prop := ∃ ws : List Addr, Keep h h' ws ∧ ∀ x ∈ ws, n0 ≤ x
theorem Gw.ext (E : Ext h h') : Gw h h' n0 := ⟨[], (Keep.refl _ _).ext E, fun _ q => nomatch q⟩
theorem Gw.one {a : Addr} (K : Keep h h' [a]) (q : n0 ≤ a) : Gw h h' n0 := ⟨[a], K, fun x z => by cases List.mem_singleton.mp z; exact q⟩
/-- a step that turns the heap -/
theorem Go.turn (D : Amb κ l Z y code maxL ret rm h0 n0 Q) {P : Heap → Prop}
    (f : ∀ (p : Program) (e : Env) (s : State) (m : MethodId) (args : Array Value) (below : List Frame) (meth : Method) (c : Code) (T : State) (locs : List Loc), p.tables.exec = Jvm.exec → Z.Warmed39 s.vm → s.vm.findClass y.cls = some m.cls → c.code = code → c.maxLocals = maxL → meth.name = y.name → Stand p l e rm s m args below meth c T locs ce sl → T.heap = h → Fr n0 locs → ∃ T' locs' h', Stand p l e rm s m args below meth c T' locs' ce' sl' ∧ T'.heap = h' ∧ Fr n0 locs' ∧ Gw h h' n0 ∧ P h' ∧ ∀ t, Steps p.tables e below (T'.setTop (mkF m pc' ls' st')) t → Steps p.tables e below (T.setTop (mkF m pc ls st)) t)
    (G : ∀ h', P h' → Go κ σ h' ce' sl' pc' ls' st') : Go κ σ h ce sl pc ls st := by
  obtain ⟨p, l', e, R, s, m, args, below, meth, c, Z', n0', Q'⟩ := κ
  obtain ⟨rfl, rfl, rfl, rfl, hQ, hx, hZ, hown, hby, hml, hret, hlk, hnm, hh⟩ := D
  intro vm0 k0 T locs X hS hk V O eT N
  obtain ⟨T', locs', h', X', eT', N', ⟨ws, K, hws⟩, hP, k⟩ := f p e (s.setVm vm0) m args below meth c T locs hx (State.Warmed39.trans (t := s) hZ hS.1) (by show vm0.findClass _ = _; rw [hS.1.alike.findClass]; exact hown) hby hml hnm X eT N
  obtain ⟨s₂, o, h1, h2⟩ := G h' hP vm0 k0 T' locs' X' hS (Nat.le_trans hk K.1) V (O.keep K hws) eT' N'
  exact ⟨s₂, o, k _ h1, h2⟩
theorem sd_mono {p : Program} {e : Env} {R : Room} {s : State} {m : MethodId} {args : Array Value} {below : List Frame} {meth : Method} {c : Code} {T : State} {locs : List Loc} (X : Stand p l e R s m args below meth c T locs ce sl) (h1 : ce ≤ ce') (h2 : sl ≤ sl') : Stand p l e R s m args below meth c T locs ce' sl' :=
  { X with same := X.same.mono h1 h2 }
theorem Go.up (h1 : ce ≤ ce') (h2 : sl ≤ sl') (G : Go κ σ h ce' sl' pc ls st) : Go κ σ h ce sl pc ls st := by
  obtain ⟨p, l', e, R, s, m, args, below, meth, c, Z', n0', Q'⟩ := κ
  intro vm0 k0 T locs X hS hk V O eT N
  exact G vm0 k0 T locs (sd_mono X h1 h2) hS hk V O eT N
/-- the walk's hidden knowledge: the heap at the start stands -/
theorem Go.old (D : Amb κ l Z y code maxL ret rm h0 n0 Q) (G : Old Z n0 h → Go κ σ h ce sl pc ls st) : Go κ σ h ce sl pc ls st := by
  obtain ⟨p, l', e, R, s, m, args, below, meth, c, Z', n0', Q'⟩ := κ
  obtain ⟨rfl, rfl, rfl, rfl, hQ, hx, hZ, hown, hby, hml, hret, hlk, hnm, hh⟩ := D
  intro vm0 k0 T locs X hS hk V O eT N
  exact G O vm0 k0 T locs X hS hk V O eT N
theorem Go.getS (D : Amb κ l Z y code maxL ret rm h0 n0 Q) {idx : Nat} {n d O : String} {v : Value} (w : (Jvm.Cond.fieldLink y.cls idx O n d).before a0 Z = true) (hd : decode code pc = .ok (.getstatic idx, 3)) (hp : pc + 3 = pc') (F : Sta Z Z.heap O n d v) (G : Go κ σ h ce sl pc' ls (v :: st)) : Go κ σ h ce sl pc ls st := by
  subst hp
  refine Go.old D fun O' => ?_
  exact Go.calm D (fun p e s m args below meth c T locs hx hZ hown hby hml hh X eT => Jvm.RoadKit.getS (host := "") X hx hZ hown w Via.refl eT (F.ext O'.2) (g := mkF m pc ls st) rfl (hb hby hd)) G
/-! returns -/
theorem Go.ret1 (D : Amb κ l Z y code maxL ret rm h0 n0 Q) {i : Instr} {t : FieldType} {w : Value} (hret' : ret = some t) (hn : narrow t w = w)
    (hi : (i = .ireturn ∧ (t = .int ∨ t = .boolean ∨ t = .byte ∨ t = .char ∨ t = .short) ∧ ∃ z, w = .int z) ∨ (i = .lreturn ∧ t = .long ∧ ∃ z, w = .long z) ∨ (i = .dreturn ∧ t = .double ∧ ∃ z, w = .double z) ∨ (i = .freturn ∧ t = .float ∧ ∃ z, w = .float z) ∨ (i = .areturn ∧ t.isReference = true ∧ w.isRef = true))
    (hd : decode code pc = .ok (i, 1)) (hc : ce ≤ rm.cells) (hs : sl ≤ rm.slots) (q : Q (some w) h σ) : Go κ σ h ce sl pc ls (w :: rest) := by
  obtain ⟨p, l', e, R, s, m, args, below, meth, c, Z', n0', Q'⟩ := κ
  obtain ⟨rfl, rfl, rfl, rfl, hQ, hx, hZ, hown, hby, hml, hret, hlk, hnm, hh⟩ := D
  intro vm0 k0 T locs X hS hk V O eT N
  have hr2 : meth.sig.returnType = some t := hret.trans hret'
  obtain ⟨fs, hr, hrun, hended, hW⟩ := X.leaveW hS (by rw [eT]; exact hk) (v := some w) (fun h => by rw [hr2] at h; cases h) hlk
  refine ⟨_, _, retOut X hx hr2 hn hi (hb hby hd) hr, hrun, hended, _, _, σ, rfl, ⟨N, V.warm X.warmed, ?_, hQ _ _ _ ?_⟩, hW.1, hW.2.1, hW.2.2.1, hW.2.2.2.mono hc hs⟩
  · show Old _ _ T.heap
    rw [eT]; exact O
  · show Q (some w) T.heap σ
    rw [eT]; exact q
theorem Go.iret (D : Amb κ l Z y code maxL ret rm h0 n0 Q) {x : Int32} (hret' : ret = some .int) (hd : decode code pc = .ok (.ireturn, 1)) (hc : ce ≤ rm.cells) (hs : sl ≤ rm.slots) (q : Q (some (.int x)) h σ) : Go κ σ h ce sl pc ls (.int x :: rest) :=
  Go.ret1 D hret' rfl (Or.inl ⟨rfl, Or.inl rfl, _, rfl⟩) hd hc hs q
theorem Go.zret (D : Amb κ l Z y code maxL ret rm h0 n0 Q) {x : Int32} (hret' : ret = some .boolean) (hx : narrow .boolean (.int x) = .int x) (hd : decode code pc = .ok (.ireturn, 1)) (hc : ce ≤ rm.cells) (hs : sl ≤ rm.slots) (q : Q (some (.int x)) h σ) : Go κ σ h ce sl pc ls (.int x :: rest) :=
  Go.ret1 D hret' hx (Or.inl ⟨rfl, Or.inr (Or.inl rfl), _, rfl⟩) hd hc hs q
theorem Go.cret (D : Amb κ l Z y code maxL ret rm h0 n0 Q) {x : Int32} (hret' : ret = some .char) (hx : narrow .char (.int x) = .int x) (hd : decode code pc = .ok (.ireturn, 1)) (hc : ce ≤ rm.cells) (hs : sl ≤ rm.slots) (q : Q (some (.int x)) h σ) : Go κ σ h ce sl pc ls (.int x :: rest) :=
  Go.ret1 D hret' hx (Or.inl ⟨rfl, Or.inr (Or.inr (Or.inr (Or.inl rfl))), _, rfl⟩) hd hc hs q
theorem Go.bret (D : Amb κ l Z y code maxL ret rm h0 n0 Q) {x : Int32} (hret' : ret = some .byte) (hx : narrow .byte (.int x) = .int x) (hd : decode code pc = .ok (.ireturn, 1)) (hc : ce ≤ rm.cells) (hs : sl ≤ rm.slots) (q : Q (some (.int x)) h σ) : Go κ σ h ce sl pc ls (.int x :: rest) :=
  Go.ret1 D hret' hx (Or.inl ⟨rfl, Or.inr (Or.inr (Or.inl rfl)), _, rfl⟩) hd hc hs q
theorem Go.aret (D : Amb κ l Z y code maxL ret rm h0 n0 Q) {t : FieldType} {a : Addr} (hret' : ret = some t) (ht : t.isReference = true) (hn : narrow t (.ref a) = .ref a) (hd : decode code pc = .ok (.areturn, 1)) (hc : ce ≤ rm.cells) (hs : sl ≤ rm.slots) (q : Q (some (.ref a)) h σ) : Go κ σ h ce sl pc ls (.ref a :: rest) :=
  Go.ret1 D hret' hn (Or.inr (Or.inr (Or.inr (Or.inr ⟨rfl, ht, rfl⟩)))) hd hc hs q
theorem Go.lret (D : Amb κ l Z y code maxL ret rm h0 n0 Q) {x : Int64} (hret' : ret = some .long) (hd : decode code pc = .ok (.lreturn, 1)) (hc : ce ≤ rm.cells) (hs : sl ≤ rm.slots) (q : Q (some (.long x)) h σ) : Go κ σ h ce sl pc ls (.long x :: rest) :=
  Go.ret1 D hret' rfl (Or.inr (Or.inl ⟨rfl, rfl, _, rfl⟩)) hd hc hs q
theorem Go.vret (D : Amb κ l Z y code maxL ret rm h0 n0 Q) (hret' : ret = none) (hd : decode code pc = .ok (.return_, 1)) (hc : ce ≤ rm.cells) (hs : sl ≤ rm.slots) (q : Q none h σ) : Go κ σ h ce sl pc ls [] := by
  obtain ⟨p, l', e, R, s, m, args, below, meth, c, Z', n0', Q'⟩ := κ
  obtain ⟨rfl, rfl, rfl, rfl, hQ, hx, hZ, hown, hby, hml, hret, hlk, hnm, hh⟩ := D
  intro vm0 k0 T locs X hS hk V O eT N
  have hr2 : meth.sig.returnType = none := hret.trans hret'
  obtain ⟨fs, hr, hrun, hended, hW⟩ := X.leaveW hS (by rw [eT]; exact hk) (v := none) (fun _ => rfl) hlk
  refine ⟨_, _, X.returnOut hx hr2 (hb hby hd) hr, hrun, hended, _, _, σ, rfl, ⟨N, V.warm X.warmed, ?_, hQ _ _ _ ?_⟩, hW.1, hW.2.1, hW.2.2.1, hW.2.2.2.mono hc hs⟩
  · show Old _ _ T.heap
    rw [eT]; exact O
  · show Q none T.heap σ
    rw [eT]; exact q
/-! branches -/
def cy : ClassFile.Cond → Int32 → Int32 → Prop
  | .eq, x, y => x = y
  | .ne, x, y => ¬ x = y
  | .lt, x, y => x < y
  | .ge, x, y => ¬ x < y
  | .gt, x, y => y < x
  | .le, x, y => ¬ y < x
def cn : ClassFile.Cond → Int32 → Int32 → Prop
  | .eq, x, y => ¬ x = y
  | .ne, x, y => x = y
  | .lt, x, y => ¬ x < y
  | .ge, x, y => x < y
  | .gt, x, y => ¬ y < x
  | .le, x, y => y < x
theorem icmp_dec (cd : ClassFile.Cond) (x y : Int32) : (if_icmp.holds cd x y = true ∧ cy cd x y) ∨ (if_icmp.holds cd x y = false ∧ cn cd x y) := by
  cases cd <;> simp only [if_icmp.holds, cy, cn, beq_iff_eq, bne_iff_ne, ne_eq, decide_eq_true_eq, decide_eq_false_iff_not, beq_eq_false_iff_ne, bne_eq_false_iff_eq, Int32.not_lt, gt_iff_lt, ge_iff_le, Int32.not_le]
  · by_cases q : x = y <;> simp [q]
  · by_cases q : x = y <;> simp [q]
  · rcases Int32.lt_or_le x y with q | q <;> simp [q]
  · rcases Int32.lt_or_le x y with q | q <;> simp [q]
  · rcases Int32.lt_or_le y x with q | q <;> simp [q]
  · rcases Int32.lt_or_le y x with q | q <;> simp [q]
theorem ifc_dec (cd : ClassFile.Cond) (x : Int32) : (ifCond.holds cd x = true ∧ cy cd x 0) ∨ (ifCond.holds cd x = false ∧ cn cd x 0) := by
  cases cd <;> simp only [ifCond.holds, cy, cn, beq_iff_eq, bne_iff_ne, ne_eq, decide_eq_true_eq, decide_eq_false_iff_not, beq_eq_false_iff_ne, bne_eq_false_iff_eq, Int32.not_lt, gt_iff_lt, ge_iff_le, Int32.not_le]
  · by_cases q : x = 0 <;> simp [q]
  · by_cases q : x = 0 <;> simp [q]
  · rcases Int32.lt_or_le x 0 with q | q <;> simp [q]
  · rcases Int32.lt_or_le x 0 with q | q <;> simp [q]
  · rcases Int32.lt_or_le 0 x with q | q <;> simp [q]
  · rcases Int32.lt_or_le 0 x with q | q <;> simp [q]
theorem Go.ifc (D : Amb κ l Z y code maxL ret rm h0 n0 Q) {cd : ClassFile.Cond} {o : Int} {x : Int32} (hd : decode code pc = .ok (.ifCond cd o, 3)) (ho : 0 ≤ (pc : Int) + o) (hp : ((pc : Int) + o).toNat = pc') (hp2 : pc + 3 = pc2)
    (Gt : cy cd x 0 → Go κ σ h ce sl pc' ls rest) (Gf : cn cd x 0 → Go κ σ h ce sl pc2 ls rest) : Go κ σ h ce sl pc ls (.int x :: rest) := by
  subst hp2
  rcases ifc_dec cd x with ⟨q1, q2⟩ | ⟨q1, q2⟩
  · exact Go.pure D (fun p e below T t m c hx hby hT k => XS.ifYes hT hx rfl rfl (hb hby hd) rfl q1 ho hp k) (Gt q2)
  · exact Go.pure D (fun p e below T t m c hx hby hT k => XS.ifNo hT hx rfl (hb hby hd) rfl q1 k) (Gf q2)
theorem Go.icmp (D : Amb κ l Z y code maxL ret rm h0 n0 Q) {cd : ClassFile.Cond} {o : Int} {x z : Int32} (hd : decode code pc = .ok (.if_icmp cd o, 3)) (ho : 0 ≤ (pc : Int) + o) (hp : ((pc : Int) + o).toNat = pc') (hp2 : pc + 3 = pc2)
    (Gt : cy cd x z → Go κ σ h ce sl pc' ls rest) (Gf : cn cd x z → Go κ σ h ce sl pc2 ls rest) : Go κ σ h ce sl pc ls (.int z :: .int x :: rest) := by
  subst hp2
  rcases icmp_dec cd x z with ⟨q1, q2⟩ | ⟨q1, q2⟩
  · exact Go.pure D (fun p e below T t m c hx hby hT k => XS.icmpYes hT hx rfl rfl (hb hby hd) rfl q1 ho hp k) (Gt q2)
  · exact Go.pure D (fun p e below T t m c hx hby hT k => XS.icmpNo hT hx rfl (hb hby hd) rfl q1 k) (Gf q2)
theorem Go.iloadN (D : Amb κ l Z y code maxL ret rm h0 n0 Q) {k : Fin 4} {v : Int32} (hd : decode code pc = .ok (.iload_n k, 1)) (hp : pc + 1 = pc') (hl : ls[k.val]? = some (.val (.int v))) (G : Go κ σ h ce sl pc' ls (.int v :: st)) : Go κ σ h ce sl pc ls (st) := by
  subst hp
  exact Go.pure D (fun p e below T t m c hx hby hT k' => XS.iloadN hT hx rfl (hb hby hd) hl k') G
theorem Go.iload (D : Amb κ l Z y code maxL ret rm h0 n0 Q) {k : Nat} {v : Int32} (hd : decode code pc = .ok (.iload k, 2)) (hp : pc + 2 = pc') (hl : ls[k]? = some (.val (.int v))) (G : Go κ σ h ce sl pc' ls (.int v :: st)) : Go κ σ h ce sl pc ls (st) := by
  subst hp
  exact Go.pure D (fun p e below T t m c hx hby hT k' => XS.iload hT hx rfl (hb hby hd) hl k') G
theorem Go.aloadN (D : Amb κ l Z y code maxL ret rm h0 n0 Q) {k : Fin 4} {v : Value} (hd : decode code pc = .ok (.aload_n k, 1)) (hp : pc + 1 = pc') (hl : ls[k.val]? = some (.val v)) (hv : v.isRef = true) (G : Go κ σ h ce sl pc' ls (v :: st)) : Go κ σ h ce sl pc ls (st) := by
  subst hp
  exact Go.pure D (fun p e below T t m c hx hby hT k' => XS.aloadN hT hx rfl (hb hby hd) hl hv k') G
theorem Go.aload (D : Amb κ l Z y code maxL ret rm h0 n0 Q) {k : Nat} {v : Value} (hd : decode code pc = .ok (.aload k, 2)) (hp : pc + 2 = pc') (hl : ls[k]? = some (.val v)) (hv : v.isRef = true) (G : Go κ σ h ce sl pc' ls (v :: st)) : Go κ σ h ce sl pc ls (st) := by
  subst hp
  exact Go.pure D (fun p e below T t m c hx hby hT k' => XS.aload hT hx rfl (hb hby hd) hl hv k') G
theorem Go.lloadN (D : Amb κ l Z y code maxL ret rm h0 n0 Q) {k : Fin 4} {v : Int64} (hd : decode code pc = .ok (.lload_n k, 1)) (hp : pc + 1 = pc') (hl : ls[k.val]? = some (.val (.long v))) (G : Go κ σ h ce sl pc' ls (.long v :: st)) : Go κ σ h ce sl pc ls (st) := by
  subst hp
  exact Go.pure D (fun p e below T t m c hx hby hT k' => XS.lloadN hT hx rfl (hb hby hd) hl k') G
theorem Go.lload (D : Amb κ l Z y code maxL ret rm h0 n0 Q) {k : Nat} {v : Int64} (hd : decode code pc = .ok (.lload k, 2)) (hp : pc + 2 = pc') (hl : ls[k]? = some (.val (.long v))) (G : Go κ σ h ce sl pc' ls (.long v :: st)) : Go κ σ h ce sl pc ls (st) := by
  subst hp
  exact Go.pure D (fun p e below T t m c hx hby hT k' => XS.lload hT hx rfl (hb hby hd) hl k') G
theorem Go.iconst (D : Amb κ l Z y code maxL ret rm h0 n0 Q) {i : Int} {v : Int32} (hd : decode code pc = .ok (.iconst i, 1)) (hp : pc + 1 = pc') (hv : Int32.ofInt i = v) (G : Go κ σ h ce sl pc' ls (.int v :: st)) : Go κ σ h ce sl pc ls (st) := by
  subst hp hv
  exact Go.pure D (fun p e below T t m c hx hby hT k' => XS.iconst hT hx rfl (hb hby hd) k') G
theorem Go.bipush (D : Amb κ l Z y code maxL ret rm h0 n0 Q) {i : Int} {v : Int32} (hd : decode code pc = .ok (.bipush i, 2)) (hp : pc + 2 = pc') (hv : (Int8.ofInt i).toInt32 = v) (G : Go κ σ h ce sl pc' ls (.int v :: st)) : Go κ σ h ce sl pc ls (st) := by
  subst hp hv
  exact Go.pure D (fun p e below T t m c hx hby hT k' => XS.bipush hT hx rfl (hb hby hd) k') G
theorem Go.sipush (D : Amb κ l Z y code maxL ret rm h0 n0 Q) {i : Int} {v : Int32} (hd : decode code pc = .ok (.sipush i, 3)) (hp : pc + 3 = pc') (hv : (Int16.ofInt i).toInt32 = v) (G : Go κ σ h ce sl pc' ls (.int v :: st)) : Go κ σ h ce sl pc ls (st) := by
  subst hp hv
  exact Go.pure D (fun p e below T t m c hx hby hT k' => XS.sipush hT hx rfl (hb hby hd) k') G
theorem Go.lconst (D : Amb κ l Z y code maxL ret rm h0 n0 Q) {k : Fin 2} {v : Int64} (hd : decode code pc = .ok (.lconst k, 1)) (hp : pc + 1 = pc') (hv : Int64.ofNat k = v) (G : Go κ σ h ce sl pc' ls (.long v :: st)) : Go κ σ h ce sl pc ls (st) := by
  subst hp hv
  exact Go.pure D (fun p e below T t m c hx hby hT k' => XS.lconst hT hx rfl (hb hby hd) k') G
theorem Go.aconstNull (D : Amb κ l Z y code maxL ret rm h0 n0 Q)  (hd : decode code pc = .ok (.aconst_null, 1)) (hp : pc + 1 = pc')  (G : Go κ σ h ce sl pc' ls (.null :: st)) : Go κ σ h ce sl pc ls (st) := by
  subst hp
  exact Go.pure D (fun p e below T t m c hx hby hT k' => XS.aconstNull hT hx rfl (hb hby hd) k') G
theorem Go.iadd (D : Amb κ l Z y code maxL ret rm h0 n0 Q) {x z : Int32} (hd : decode code pc = .ok (.iadd, 1)) (hp : pc + 1 = pc')  (G : Go κ σ h ce sl pc' ls (.int (x + z) :: rest)) : Go κ σ h ce sl pc ls (.int z :: .int x :: rest) := by
  subst hp
  exact Go.pure D (fun p e below T t m c hx hby hT k' => XS.iadd hT hx rfl (hb hby hd) rfl k') G
theorem Go.isub (D : Amb κ l Z y code maxL ret rm h0 n0 Q) {x z : Int32} (hd : decode code pc = .ok (.isub, 1)) (hp : pc + 1 = pc')  (G : Go κ σ h ce sl pc' ls (.int (x - z) :: rest)) : Go κ σ h ce sl pc ls (.int z :: .int x :: rest) := by
  subst hp
  exact Go.pure D (fun p e below T t m c hx hby hT k' => XS.isub hT hx rfl (hb hby hd) rfl k') G
theorem Go.iand (D : Amb κ l Z y code maxL ret rm h0 n0 Q) {x z : Int32} (hd : decode code pc = .ok (.iand, 1)) (hp : pc + 1 = pc')  (G : Go κ σ h ce sl pc' ls (.int (x &&& z) :: rest)) : Go κ σ h ce sl pc ls (.int z :: .int x :: rest) := by
  subst hp
  exact Go.pure D (fun p e below T t m c hx hby hT k' => XS.iand hT hx rfl (hb hby hd) rfl k') G
theorem Go.imul (D : Amb κ l Z y code maxL ret rm h0 n0 Q) {x z : Int32} (hd : decode code pc = .ok (.imul, 1)) (hp : pc + 1 = pc')  (G : Go κ σ h ce sl pc' ls (.int (x * z) :: rest)) : Go κ σ h ce sl pc ls (.int z :: .int x :: rest) := by
  subst hp
  exact Go.pure D (fun p e below T t m c hx hby hT k' => XS.imul hT hx rfl (hb hby hd) rfl k') G
theorem Go.ixor (D : Amb κ l Z y code maxL ret rm h0 n0 Q) {x z : Int32} (hd : decode code pc = .ok (.ixor, 1)) (hp : pc + 1 = pc')  (G : Go κ σ h ce sl pc' ls (.int (x ^^^ z) :: rest)) : Go κ σ h ce sl pc ls (.int z :: .int x :: rest) := by
  subst hp
  exact Go.pure D (fun p e below T t m c hx hby hT k' => XS.ixor hT hx rfl (hb hby hd) rfl k') G
theorem Go.ior (D : Amb κ l Z y code maxL ret rm h0 n0 Q) {x z : Int32} (hd : decode code pc = .ok (.ior, 1)) (hp : pc + 1 = pc')  (G : Go κ σ h ce sl pc' ls (.int (x ||| z) :: rest)) : Go κ σ h ce sl pc ls (.int z :: .int x :: rest) := by
  subst hp
  exact Go.pure D (fun p e below T t m c hx hby hT k' => XS.ior hT hx rfl (hb hby hd) rfl k') G
theorem Go.ishl (D : Amb κ l Z y code maxL ret rm h0 n0 Q) {x z : Int32} (hd : decode code pc = .ok (.ishl, 1)) (hp : pc + 1 = pc')  (G : Go κ σ h ce sl pc' ls (.int (x <<< (z &&& 31)) :: rest)) : Go κ σ h ce sl pc ls (.int z :: .int x :: rest) := by
  subst hp
  exact Go.pure D (fun p e below T t m c hx hby hT k' => XS.ishl hT hx rfl (hb hby hd) rfl k') G
theorem Go.ishr (D : Amb κ l Z y code maxL ret rm h0 n0 Q) {x z : Int32} (hd : decode code pc = .ok (.ishr, 1)) (hp : pc + 1 = pc')  (G : Go κ σ h ce sl pc' ls (.int (x >>> (z &&& 31)) :: rest)) : Go κ σ h ce sl pc ls (.int z :: .int x :: rest) := by
  subst hp
  exact Go.pure D (fun p e below T t m c hx hby hT k' => XS.ishr hT hx rfl (hb hby hd) rfl k') G
theorem Go.iushr (D : Amb κ l Z y code maxL ret rm h0 n0 Q) {x z : Int32} (hd : decode code pc = .ok (.iushr, 1)) (hp : pc + 1 = pc')  (G : Go κ σ h ce sl pc' ls (.int (ushr x z) :: rest)) : Go κ σ h ce sl pc ls (.int z :: .int x :: rest) := by
  subst hp
  exact Go.pure D (fun p e below T t m c hx hby hT k' => XS.iushr hT hx rfl (hb hby hd) rfl k') G
theorem Go.ladd (D : Amb κ l Z y code maxL ret rm h0 n0 Q) {x z : Int64} (hd : decode code pc = .ok (.ladd, 1)) (hp : pc + 1 = pc')  (G : Go κ σ h ce sl pc' ls (.long (x + z) :: rest)) : Go κ σ h ce sl pc ls (.long z :: .long x :: rest) := by
  subst hp
  exact Go.pure D (fun p e below T t m c hx hby hT k' => XS.ladd hT hx rfl (hb hby hd) rfl k') G
theorem Go.lsub (D : Amb κ l Z y code maxL ret rm h0 n0 Q) {x z : Int64} (hd : decode code pc = .ok (.lsub, 1)) (hp : pc + 1 = pc')  (G : Go κ σ h ce sl pc' ls (.long (x - z) :: rest)) : Go κ σ h ce sl pc ls (.long z :: .long x :: rest) := by
  subst hp
  exact Go.pure D (fun p e below T t m c hx hby hT k' => XS.lsub hT hx rfl (hb hby hd) rfl k') G
theorem Go.lmul (D : Amb κ l Z y code maxL ret rm h0 n0 Q) {x z : Int64} (hd : decode code pc = .ok (.lmul, 1)) (hp : pc + 1 = pc')  (G : Go κ σ h ce sl pc' ls (.long (x * z) :: rest)) : Go κ σ h ce sl pc ls (.long z :: .long x :: rest) := by
  subst hp
  exact Go.pure D (fun p e below T t m c hx hby hT k' => XS.lmul hT hx rfl (hb hby hd) rfl k') G
theorem Go.land (D : Amb κ l Z y code maxL ret rm h0 n0 Q) {x z : Int64} (hd : decode code pc = .ok (.land, 1)) (hp : pc + 1 = pc')  (G : Go κ σ h ce sl pc' ls (.long (x &&& z) :: rest)) : Go κ σ h ce sl pc ls (.long z :: .long x :: rest) := by
  subst hp
  exact Go.pure D (fun p e below T t m c hx hby hT k' => XS.land hT hx rfl (hb hby hd) rfl k') G
theorem Go.lor (D : Amb κ l Z y code maxL ret rm h0 n0 Q) {x z : Int64} (hd : decode code pc = .ok (.lor, 1)) (hp : pc + 1 = pc')  (G : Go κ σ h ce sl pc' ls (.long (x ||| z) :: rest)) : Go κ σ h ce sl pc ls (.long z :: .long x :: rest) := by
  subst hp
  exact Go.pure D (fun p e below T t m c hx hby hT k' => XS.lor hT hx rfl (hb hby hd) rfl k') G
theorem Go.lxor (D : Amb κ l Z y code maxL ret rm h0 n0 Q) {x z : Int64} (hd : decode code pc = .ok (.lxor, 1)) (hp : pc + 1 = pc')  (G : Go κ σ h ce sl pc' ls (.long (x ^^^ z) :: rest)) : Go κ σ h ce sl pc ls (.long z :: .long x :: rest) := by
  subst hp
  exact Go.pure D (fun p e below T t m c hx hby hT k' => XS.lxor hT hx rfl (hb hby hd) rfl k') G
theorem Go.lshl (D : Amb κ l Z y code maxL ret rm h0 n0 Q) {x : Int64} {z : Int32} (hd : decode code pc = .ok (.lshl, 1)) (hp : pc + 1 = pc')  (G : Go κ σ h ce sl pc' ls (.long (x <<< (z &&& 63).toInt64) :: rest)) : Go κ σ h ce sl pc ls (.int z :: .long x :: rest) := by
  subst hp
  exact Go.pure D (fun p e below T t m c hx hby hT k' => XS.lshl hT hx rfl (hb hby hd) rfl k') G
theorem Go.lshr (D : Amb κ l Z y code maxL ret rm h0 n0 Q) {x : Int64} {z : Int32} (hd : decode code pc = .ok (.lshr, 1)) (hp : pc + 1 = pc')  (G : Go κ σ h ce sl pc' ls (.long (x >>> (z &&& 63).toInt64) :: rest)) : Go κ σ h ce sl pc ls (.int z :: .long x :: rest) := by
  subst hp
  exact Go.pure D (fun p e below T t m c hx hby hT k' => XS.lshr hT hx rfl (hb hby hd) rfl k') G
theorem Go.lushr (D : Amb κ l Z y code maxL ret rm h0 n0 Q) {x : Int64} {z : Int32} (hd : decode code pc = .ok (.lushr, 1)) (hp : pc + 1 = pc')  (G : Go κ σ h ce sl pc' ls (.long (ushrL x z) :: rest)) : Go κ σ h ce sl pc ls (.int z :: .long x :: rest) := by
  subst hp
  exact Go.pure D (fun p e below T t m c hx hby hT k' => XS.lushr hT hx rfl (hb hby hd) rfl k') G
theorem Go.ineg (D : Amb κ l Z y code maxL ret rm h0 n0 Q) {x : Int32} (hd : decode code pc = .ok (.ineg, 1)) (hp : pc + 1 = pc')  (G : Go κ σ h ce sl pc' ls (.int (-x) :: rest)) : Go κ σ h ce sl pc ls (.int x :: rest) := by
  subst hp
  exact Go.pure D (fun p e below T t m c hx hby hT k' => XS.ineg hT hx rfl (hb hby hd) rfl k') G
theorem Go.lneg (D : Amb κ l Z y code maxL ret rm h0 n0 Q) {x : Int64} (hd : decode code pc = .ok (.lneg, 1)) (hp : pc + 1 = pc')  (G : Go κ σ h ce sl pc' ls (.long (-x) :: rest)) : Go κ σ h ce sl pc ls (.long x :: rest) := by
  subst hp
  exact Go.pure D (fun p e below T t m c hx hby hT k' => XS.lneg hT hx rfl (hb hby hd) rfl k') G
theorem Go.i2l (D : Amb κ l Z y code maxL ret rm h0 n0 Q) {x : Int32} (hd : decode code pc = .ok (.i2l, 1)) (hp : pc + 1 = pc')  (G : Go κ σ h ce sl pc' ls (.long (x.toInt64) :: rest)) : Go κ σ h ce sl pc ls (.int x :: rest) := by
  subst hp
  exact Go.pure D (fun p e below T t m c hx hby hT k' => XS.i2l hT hx rfl (hb hby hd) rfl k') G
theorem Go.l2i (D : Amb κ l Z y code maxL ret rm h0 n0 Q) {x : Int64} (hd : decode code pc = .ok (.l2i, 1)) (hp : pc + 1 = pc')  (G : Go κ σ h ce sl pc' ls (.int (x.toInt32) :: rest)) : Go κ σ h ce sl pc ls (.long x :: rest) := by
  subst hp
  exact Go.pure D (fun p e below T t m c hx hby hT k' => XS.l2i hT hx rfl (hb hby hd) rfl k') G
theorem Go.i2b (D : Amb κ l Z y code maxL ret rm h0 n0 Q) {x : Int32} (hd : decode code pc = .ok (.i2b, 1)) (hp : pc + 1 = pc')  (G : Go κ σ h ce sl pc' ls (.int (x.toInt8.toInt32) :: rest)) : Go κ σ h ce sl pc ls (.int x :: rest) := by
  subst hp
  exact Go.pure D (fun p e below T t m c hx hby hT k' => XS.i2b hT hx rfl (hb hby hd) rfl k') G
theorem Go.i2c (D : Amb κ l Z y code maxL ret rm h0 n0 Q) {x : Int32} (hd : decode code pc = .ok (.i2c, 1)) (hp : pc + 1 = pc')  (G : Go κ σ h ce sl pc' ls (.int (x.toUInt32.toUInt16.toUInt32.toInt32) :: rest)) : Go κ σ h ce sl pc ls (.int x :: rest) := by
  subst hp
  exact Go.pure D (fun p e below T t m c hx hby hT k' => XS.i2c hT hx rfl (hb hby hd) rfl k') G
theorem Go.lcmp (D : Amb κ l Z y code maxL ret rm h0 n0 Q) {x z : Int64} (hd : decode code pc = .ok (.lcmp, 1)) (hp : pc + 1 = pc')  (G : Go κ σ h ce sl pc' ls (.int (cmpL x z) :: rest)) : Go κ σ h ce sl pc ls (.long z :: .long x :: rest) := by
  subst hp
  exact Go.pure D (fun p e below T t m c hx hby hT k' => XS.lcmp hT hx rfl (hb hby hd) rfl k') G
theorem Go.dup (D : Amb κ l Z y code maxL ret rm h0 n0 Q) {x : Value} (hd : decode code pc = .ok (.dup, 1)) (hp : pc + 1 = pc') (hc : x.category = 1) (G : Go κ σ h ce sl pc' ls (x :: x :: rest)) : Go κ σ h ce sl pc ls (x :: rest) := by
  subst hp
  exact Go.pure D (fun p e below T t m c hx hby hT k' => XS.dup hT hx rfl (hb hby hd) rfl hc k') G
theorem Go.pop (D : Amb κ l Z y code maxL ret rm h0 n0 Q) {x : Value} (hd : decode code pc = .ok (.pop, 1)) (hp : pc + 1 = pc') (hc : x.category = 1) (G : Go κ σ h ce sl pc' ls (rest)) : Go κ σ h ce sl pc ls (x :: rest) := by
  subst hp
  exact Go.pure D (fun p e below T t m c hx hby hT k' => XS.pop hT hx rfl (hb hby hd) rfl hc k') G
theorem Go.dupX1 (D : Amb κ l Z y code maxL ret rm h0 n0 Q) {x z : Value} (hd : decode code pc = .ok (.dup_x1, 1)) (hp : pc + 1 = pc') (hc : x.category = 1) (hc' : z.category = 1) (G : Go κ σ h ce sl pc' ls (x :: z :: x :: rest)) : Go κ σ h ce sl pc ls (x :: z :: rest) := by
  subst hp
  exact Go.pure D (fun p e below T t m c hx hby hT k' => XS.dupX1 hT hx rfl (hb hby hd) rfl hc hc' k') G
theorem Go.dup2 (D : Amb κ l Z y code maxL ret rm h0 n0 Q) {x z : Value} (hd : decode code pc = .ok (.dup2, 1)) (hp : pc + 1 = pc') (hc : x.category = 1) (hc' : z.category = 1) (G : Go κ σ h ce sl pc' ls (x :: z :: x :: z :: rest)) : Go κ σ h ce sl pc ls (x :: z :: rest) := by
  subst hp
  exact Go.pure D (fun p e below T t m c hx hby hT k' => XT.dup2 hT hx rfl (hb hby hd) rfl hc hc' k') G
theorem Go.dup2L (D : Amb κ l Z y code maxL ret rm h0 n0 Q) {x : Int64} (hd : decode code pc = .ok (.dup2, 1)) (hp : pc + 1 = pc')  (G : Go κ σ h ce sl pc' ls (.long x :: .long x :: rest)) : Go κ σ h ce sl pc ls (.long x :: rest) := by
  subst hp
  exact Go.pure D (fun p e below T t m c hx hby hT k' => XT.dup2L hT hx rfl (hb hby hd) rfl k') G
theorem Go.istoreN (D : Amb κ l Z y code maxL ret rm h0 n0 Q) {k : Fin 4} {x : Int32} (hd : decode code pc = .ok (.istore_n k, 1)) (hp : pc + 1 = pc') (hl : storeLocals ls k.val (.int x) = some ls') (G : Go κ σ h ce sl pc' ls' rest) : Go κ σ h ce sl pc ls (.int x :: rest) := by
  subst hp
  exact Go.pure D (fun p e below T t m c hx hby hT k' => XS.istoreN hT hx rfl (hb hby hd) rfl hl k') G
theorem Go.istore (D : Amb κ l Z y code maxL ret rm h0 n0 Q) {k : Nat} {x : Int32} (hd : decode code pc = .ok (.istore k, 2)) (hp : pc + 2 = pc') (hl : storeLocals ls k (.int x) = some ls') (G : Go κ σ h ce sl pc' ls' rest) : Go κ σ h ce sl pc ls (.int x :: rest) := by
  subst hp
  exact Go.pure D (fun p e below T t m c hx hby hT k' => XS.istore hT hx rfl (hb hby hd) rfl hl k') G
theorem Go.astoreN (D : Amb κ l Z y code maxL ret rm h0 n0 Q) {k : Fin 4} {x : Value} (hd : decode code pc = .ok (.astore_n k, 1)) (hp : pc + 1 = pc') (hv : x.isRef = true) (hl : storeLocals ls k.val x = some ls') (G : Go κ σ h ce sl pc' ls' rest) : Go κ σ h ce sl pc ls (x :: rest) := by
  subst hp
  exact Go.pure D (fun p e below T t m c hx hby hT k' => XS.astoreN hT hx rfl (hb hby hd) rfl hv hl k') G
theorem Go.astore (D : Amb κ l Z y code maxL ret rm h0 n0 Q) {k : Nat} {x : Value} (hd : decode code pc = .ok (.astore k, 2)) (hp : pc + 2 = pc') (hv : x.isRef = true) (hl : storeLocals ls k x = some ls') (G : Go κ σ h ce sl pc' ls' rest) : Go κ σ h ce sl pc ls (x :: rest) := by
  subst hp
  exact Go.pure D (fun p e below T t m c hx hby hT k' => XS.astore hT hx rfl (hb hby hd) rfl hv hl k') G
theorem Go.lstoreN (D : Amb κ l Z y code maxL ret rm h0 n0 Q) {k : Fin 4} {x : Int64} (hd : decode code pc = .ok (.lstore_n k, 1)) (hp : pc + 1 = pc') (hl : storeLocals ls k.val (.long x) = some ls') (G : Go κ σ h ce sl pc' ls' rest) : Go κ σ h ce sl pc ls (.long x :: rest) := by
  subst hp
  exact Go.pure D (fun p e below T t m c hx hby hT k' => XS.lstoreN hT hx rfl (hb hby hd) rfl hl k') G
theorem Go.lstore (D : Amb κ l Z y code maxL ret rm h0 n0 Q) {k : Nat} {x : Int64} (hd : decode code pc = .ok (.lstore k, 2)) (hp : pc + 2 = pc') (hl : storeLocals ls k (.long x) = some ls') (G : Go κ σ h ce sl pc' ls' rest) : Go κ σ h ce sl pc ls (.long x :: rest) := by
  subst hp
  exact Go.pure D (fun p e below T t m c hx hby hT k' => XS.lstore hT hx rfl (hb hby hd) rfl hl k') G
theorem Go.iinc (D : Amb κ l Z y code maxL ret rm h0 n0 Q) {k : Nat} {cst : Int} {x d : Int32} (hd : decode code pc = .ok (.iinc k cst, 3)) (hp : pc + 3 = pc') (hl : ls[k]? = some (.val (.int x))) (hv : Int32.ofInt cst = d) (hl' : storeLocals ls k (.int (x + d)) = some ls') (G : Go κ σ h ce sl pc' ls' st) : Go κ σ h ce sl pc ls st := by
  subst hp hv
  exact Go.pure D (fun p e below T t m c hx hby hT k' => XS.iinc hT hx rfl (hb hby hd) hl hl' k') G
theorem Go.istoreU (D : Amb κ l Z y code maxL ret rm h0 n0 Q) {k : Nat} {x : Int32} {o : Slot} (hd : decode code pc = .ok (.istore k, 2)) (hp : pc + 2 = pc') (hold : ls[k]? = some o) (ho : o = .unset ∨ ∃ w, o = .val w ∧ w.category = 1) (hl : ls.setIfInBounds k (.val (.int x)) = ls') (G : Go κ σ h ce sl pc' ls' rest) : Go κ σ h ce sl pc ls (.int x :: rest) := by
  subst hp hl
  exact Go.pure D (fun p e below T t m c hx hby hT k' => XS.istoreS hT hx rfl (hb hby hd) rfl hold ho k') G
theorem Go.istoreNU (D : Amb κ l Z y code maxL ret rm h0 n0 Q) {k : Fin 4} {x : Int32} {o : Slot} (hd : decode code pc = .ok (.istore_n k, 1)) (hp : pc + 1 = pc') (hold : ls[k.val]? = some o) (ho : o = .unset ∨ ∃ w, o = .val w ∧ w.category = 1) (hl : ls.setIfInBounds k.val (.val (.int x)) = ls') (G : Go κ σ h ce sl pc' ls' rest) : Go κ σ h ce sl pc ls (.int x :: rest) := by
  subst hp hl
  exact Go.pure D (fun p e below T t m c hx hby hT k' => XS.istoreNS hT hx rfl (hb hby hd) rfl hold ho k') G
theorem Go.astoreU (D : Amb κ l Z y code maxL ret rm h0 n0 Q) {k : Nat} {x : Value} {o : Slot} (hd : decode code pc = .ok (.astore k, 2)) (hp : pc + 2 = pc') (hv : x.isRef = true) (hc : x.category = 1) (hold : ls[k]? = some o) (ho : o = .unset ∨ ∃ w, o = .val w ∧ w.category = 1) (hl : ls.setIfInBounds k (.val x) = ls') (G : Go κ σ h ce sl pc' ls' rest) : Go κ σ h ce sl pc ls (x :: rest) := by
  subst hp hl
  exact Go.pure D (fun p e below T t m c hx hby hT k' => XS.astoreS hT hx rfl (hb hby hd) rfl hv hc hold ho k') G
theorem Go.goto (D : Amb κ l Z y code maxL ret rm h0 n0 Q) {o : Int} (hd : decode code pc = .ok (.goto o, 3)) (ho : 0 ≤ (pc : Int) + o) (hp : ((pc : Int) + o).toNat = pc') (G : Go κ σ h ce sl pc' ls st) : Go κ σ h ce sl pc ls st :=
  Go.pure D (fun p e below T t m c hx hby hT k' => XS.goto hT hx rfl rfl (hb hby hd) ho hp k') G
theorem Go.ifnullY (D : Amb κ l Z y code maxL ret rm h0 n0 Q) {o : Int} (hd : decode code pc = .ok (.ifnull o, 3)) (ho : 0 ≤ (pc : Int) + o) (hp : ((pc : Int) + o).toNat = pc') (G : Go κ σ h ce sl pc' ls rest) : Go κ σ h ce sl pc ls (.null :: rest) :=
  Go.pure D (fun p e below T t m c hx hby hT k' => XS.ifnullYes hT hx rfl rfl (hb hby hd) rfl ho hp k') G
theorem Go.ifnullN (D : Amb κ l Z y code maxL ret rm h0 n0 Q) {o : Int} {b : Addr} (hd : decode code pc = .ok (.ifnull o, 3)) (hp : pc + 3 = pc') (G : Go κ σ h ce sl pc' ls rest) : Go κ σ h ce sl pc ls (.ref b :: rest) := by
  subst hp
  exact Go.pure D (fun p e below T t m c hx hby hT k' => XS.ifnullNo hT hx rfl (hb hby hd) rfl k') G
theorem Go.ifnonnullY (D : Amb κ l Z y code maxL ret rm h0 n0 Q) {o : Int} {b : Addr} (hd : decode code pc = .ok (.ifnonnull o, 3)) (ho : 0 ≤ (pc : Int) + o) (hp : ((pc : Int) + o).toNat = pc') (G : Go κ σ h ce sl pc' ls rest) : Go κ σ h ce sl pc ls (.ref b :: rest) :=
  Go.pure D (fun p e below T t m c hx hby hT k' => XS.ifnonnullYes hT hx rfl rfl (hb hby hd) rfl ho hp k') G
theorem Go.ifnonnullN (D : Amb κ l Z y code maxL ret rm h0 n0 Q) {o : Int} (hd : decode code pc = .ok (.ifnonnull o, 3)) (hp : pc + 3 = pc') (G : Go κ σ h ce sl pc' ls rest) : Go κ σ h ce sl pc ls (.null :: rest) := by
  subst hp
  exact Go.pure D (fun p e below T t m c hx hby hT k' => XS.ifnonnullNo hT hx rfl (hb hby hd) rfl k') G
theorem Go.irem (D : Amb κ l Z y code maxL ret rm h0 n0 Q) {x z : Int32} (hd : decode code pc = .ok (.irem, 1)) (hp : pc + 1 = pc') (hz : z ≠ 0) (G : Go κ σ h ce sl pc' ls (.int (x % z) :: rest)) : Go κ σ h ce sl pc ls (.int z :: .int x :: rest) := by
  subst hp
  exact Go.calm D (fun p e s m args below meth c T locs hx hZ hown hby hml hh X eT => ⟨T, X, eT, fun t k => iremM X hx rfl (hb hby hd) rfl hz k⟩) G
theorem Go.ldcInt (D : Amb κ l Z y code maxL ret rm h0 n0 Q) {idx : Nat} {v : Int32} (w : (Jvm.Cond.constant y.cls idx v).before a0 Z = true) (hd : decode code pc = .ok (.ldc idx, 2)) (hp : pc + 2 = pc') (G : Go κ σ h ce sl pc' ls (.int v :: st)) : Go κ σ h ce sl pc ls st := by
  subst hp
  exact Go.calm D (fun p e s m args below meth c T locs hx hZ hown hby hml hh X eT => ⟨T, X, eT, X.ldcInt hx hown (mvT hZ w) (g := mkF m pc ls st) rfl (hb hby hd)⟩) G
theorem Go.ldc2Long (D : Amb κ l Z y code maxL ret rm h0 n0 Q) {idx : Nat} {v : Int64} (w : (Jvm.Cond.constantLong y.cls idx v).before a0 Z = true) (hd : decode code pc = .ok (.ldc2_w idx, 3)) (hp : pc + 3 = pc') (G : Go κ σ h ce sl pc' ls (.long v :: st)) : Go κ σ h ce sl pc ls st := by
  subst hp
  exact Go.calm D (fun p e s m args below meth c T locs hx hZ hown hby hml hh X eT => ⟨T, X, eT, X.ldc2Long hx hown (mvT hZ w) (g := mkF m pc ls st) rfl (hb hby hd)⟩) G
/-! fields -/
theorem Go.getF (D : Amb κ l Z y code maxL ret rm h0 n0 Q) {idx : Nat} {n d : String} {a : Addr} {v : Value} {O : String} (w : (Jvm.Cond.fieldLink y.cls idx O n d).before a0 Z = true) (hd : decode code pc = .ok (.getfield idx, 3)) (hp : pc + 3 = pc') (F : Fld Z h a O n d v) (G : Go κ σ h ce sl pc' ls (v :: rest)) : Go κ σ h ce sl pc ls (.ref a :: rest) := by
  subst hp
  exact Go.calm D (fun p e s m args below meth c T locs hx hZ hown hby hml hh X eT => Jvm.RoadKit.getF X hx hZ hown (host := "") (Or.inl w) Via.refl eT F (g := mkF m pc ls (.ref a :: rest)) rfl rfl (hb hby hd)) G
theorem Go.getFN (D : Amb κ l Z y code maxL ret rm h0 n0 Q) {idx : Nat} {n d host : String} {a : Addr} {v : Value} {O : String} (w : (Jvm.Cond.fieldLinkNest y.cls idx O n d host).before a0 Z = true) (hd : decode code pc = .ok (.getfield idx, 3)) (hp : pc + 3 = pc') (F : Fld Z h a O n d v) (G : Go κ σ h ce sl pc' ls (v :: rest)) : Go κ σ h ce sl pc ls (.ref a :: rest) := by
  subst hp
  exact Go.calm D (fun p e s m args below meth c T locs hx hZ hown hby hml hh X eT => Jvm.RoadKit.getF X hx hZ hown (host := host) (Or.inr w) Via.refl eT F (g := mkF m pc ls (.ref a :: rest)) rfl rfl (hb hby hd)) G
theorem Go.putF (D : Amb κ l Z y code maxL ret rm h0 n0 Q) {idx kk : Nat} {n d C O : String} {ty : FieldType} {a : Addr} {v old : Value} (w : (Jvm.Cond.fieldLink y.cls idx O n d).before a0 Z = true) (hd : decode code pc = .ok (.putfield idx, 3)) (hp : pc + 3 = pc') (F : Fld Z h a O n d old) (E : Exa Z h a C)
    (L : (Jvm.Cond.lays C O n d).before a0 Z = true ∨ ((Jvm.Cond.laysFinal C O n d).before a0 Z = true ∧ y.cls = O ∧ y.name = "<init>")) (wi : (Jvm.Cond.instantiable C kk).before a0 Z = true) (hty : parseFieldDescriptor d = some ty) (hn : narrow ty v = v) (hf : fits ty v = true) (ge : n0 ≤ a)
    (G : ∀ h', Wr h h' a (Jvm.RoadKit.slotOf Z O n d) v → Go κ σ h' ce sl pc' ls rest) : Go κ σ h ce sl pc ls (v :: .ref a :: rest) := by
  subst hp
  refine Go.turn D (fun p e s m args below meth c T locs hx hZ hown hby hml hnm X eT N => ?_) G
  obtain ⟨T', h1, X', e', W, k⟩ := Jvm.RoadKit.putF X hx hZ hown (host := "") (Or.inl w) Via.refl eT F E (L.imp id fun q => ⟨q.1, q.2.1, hnm.trans q.2.2⟩) wi hty hn hf (g := mkF m pc ls (v :: .ref a :: rest)) rfl rfl (hb hby hd)
  exact ⟨T', _, h1, X', e', Fr.snoc X' N ge, Gw.one (Keep.of_wr W) ge, W, k⟩
/-! new -/
theorem Go.newO (D : Amb κ l Z y code maxL ret rm h0 n0 Q) {idx n : Nat} {C : String} (w : (Jvm.Cond.classLink y.cls idx C).before a0 Z = true) (wi : (Jvm.Cond.instantiable C n).before a0 Z = true) (wz : (Jvm.Cond.initialized C).before a0 Z = true) (hd : decode code pc = .ok (.new idx, 3)) (hp : pc + 3 = pc') (hce : ce + 1 = ce') (hsl : sl + n = sl') (hc : ce' ≤ rm.cells) (hs : sl' ≤ rm.slots)
    (G : ∀ h' a, a = h.size → Ext h h' → Exa Z h' a C → (∀ {O nm d : String} {ty : FieldType}, Laid Z a0 C O nm d → parseFieldDescriptor d = some ty → Fld Z h' a O nm d (defaultValue ty)) → Go κ σ h' ce' sl' pc' ls (.ref a :: st)) : Go κ σ h ce sl pc ls st := by
  subst hp hce hsl
  refine Go.turn D (P := fun h' => Ext h h' ∧ Exa Z h' h.size C ∧ (∀ {O nm d : String} {ty : FieldType}, Laid Z a0 C O nm d → parseFieldDescriptor d = some ty → Fld Z h' h.size O nm d (defaultValue ty))) (fun p e s m args below meth c T locs hx hZ hown hby hml hnm X eT N => ?_) (fun h' q => G h' _ rfl q.1 q.2.1 q.2.2)
  obtain ⟨T', h1, X', e', E, A, F, -, k⟩ := Jvm.RoadKit.newO X hx hZ hown w wi wz eT (g := mkF m pc ls st) rfl (hb hby hd) hc hs
  exact ⟨T', _, h1, X', e', N, Gw.ext E, ⟨E, A, F⟩, k⟩
theorem Go.newP (D : Amb κ l Z y code maxL ret rm h0 n0 Q) {aty : ArrayType} {n : Int32} {cap : Nat} (w : (Jvm.Cond.arrayClass (newarray.typeOf aty)).before a0 Z = true) (hd : decode code pc = .ok (.newarray aty, 2)) (hp : pc + 2 = pc') (hn : ¬ n < 0) (hcap : n.toNatClampNeg ≤ cap) (hb' : cap * 8 ≤ 536870912) (hce : ce + 1 = ce') (hsl : sl + cap = sl') (hc : ce' ≤ rm.cells) (hs : sl' ≤ rm.slots)
    (G : ∀ h' a k, a = h.size → Ext h h' → Arv Z h' a k (newarray.typeOf aty) n [] (defaultValue (newarray.typeOf aty)) → Go κ σ h' ce' sl' pc' ls (.ref a :: rest)) : Go κ σ h ce sl pc ls (.int n :: rest) := by
  subst hp hce hsl
  refine Go.turn D (P := fun h' => ∃ k, Ext h h' ∧ Arv Z h' h.size k (newarray.typeOf aty) n [] (defaultValue (newarray.typeOf aty))) (fun p e s m args below meth c T locs hx hZ hown hby hml hnm X eT N => ?_) (fun h' q => by obtain ⟨k, q1, q2⟩ := q; exact G h' _ k rfl q1 q2)
  obtain ⟨T', h1, k, X', e', E, A, st'⟩ := Jvm.RoadKit.newP X hx hZ w eT (g := mkF m pc ls (.int n :: rest)) rfl (hb hby hd) rfl hn hcap hb' hc hs
  exact ⟨T', _, h1, X', e', N, Gw.ext E, ⟨k, E, Arv.new A hn⟩, st'⟩
theorem Go.initO (D : Amb κ l Z y code maxL ret rm h0 n0 Q) {idx : Nat} {a : Addr} (w1 : (Jvm.Cond.methodLink y.cls idx Lib.objectInit).before a0 Z = true) (w2 : (Jvm.Cond.instanceMethod Lib.objectInit).before a0 Z = true) (w3 : (Jvm.Cond.code Lib.objectInit ⟨#[0xb1]⟩ 1 none).before a0 Z = true) (hd : decode code pc = .ok (.invokespecial idx, 3)) (hp : pc + 3 = pc') (hls : ls.size = maxL) (hf : 1 ≤ rm.frames) {W : Nat} (hW : (rest.map fun v => v.category).sum = W) (hl : W + 12 ≤ rm.locals)
    (G : Go κ σ h ce sl pc' ls rest) : Go κ σ h ce sl pc ls (.ref a :: rest) := by
  subst hp
  exact Go.calm D (fun p e s m args below meth c T locs hx hZ hown hby hml hh X eT => Jvm.RoadKit.initO X hx hZ hown w1 w2 w3 eT (g := mkF m pc ls (.ref a :: rest)) rfl (hls.trans hml.symm) rfl (hb hby hd) hf (W := W) (by show 2 * 0 + _ ≤ _; rw [hW]; omega) hl) G
/-! arrays -/
section Arrays
variable {a : Addr} {k : ClassId} {n j : Int32} {vs : List Value} {dv v : Value}
theorem Go.alen (D : Amb κ l Z y code maxL ret rm h0 n0 Q) {ty : FieldType} (hd : decode code pc = .ok (.arraylength, 1)) (hp : pc + 1 = pc') (A : Arv Z h a k ty n vs dv) (G : Go κ σ h ce sl pc' ls (.int n :: rest)) : Go κ σ h ce sl pc ls (.ref a :: rest) := by
  subst hp
  obtain ⟨c', A1, A2, A3, A4, A5, A6⟩ := A
  refine Go.calm D (fun p e s m args below meth c T locs hx hZ hown hby hml hh X eT => ⟨T, X, eT, fun t q => ?_⟩) G
  refine X.arraylength hx (by rw [eT]; exact A1.1) (State.isArrayOf_alike hZ.alike A1.2.1) (g := mkF m pc ls (.ref a :: rest)) rfl rfl (hb hby hd) t ?_
  rw [len_of A3 A4]; exact q
theorem Go.iaload (D : Amb κ l Z y code maxL ret rm h0 n0 Q) (hd : decode code pc = .ok (.iaload, 1)) (hp : pc + 1 = pc') (A : Arv Z h a k .int n vs dv) (h1 : ¬ j < 0) (h2 : j < n) (hv : vs.getD j.toNatClampNeg dv = v) (G : Go κ σ h ce sl pc' ls (v :: rest)) : Go κ σ h ce sl pc ls (.int j :: .ref a :: rest) := by
  subst hp
  obtain ⟨c', A1, A2, A3, A4, A5, A6, A7⟩ := A.inb h1 h2
  exact Go.calm D (fun p e s m args below meth c T locs hx hZ hown hby hml hh X eT => ⟨T, X, eT, fun t q => X.iaload hx (by rw [eT]; exact A1.1) (State.isArrayOf_alike hZ.alike A1.2.1) A1.2.2 A7 (A5.at A7 hv) (g := mkF m pc ls (.int j :: .ref a :: rest)) rfl rfl (hb hby hd) t q⟩) G
theorem Go.caload (D : Amb κ l Z y code maxL ret rm h0 n0 Q) (hd : decode code pc = .ok (.caload, 1)) (hp : pc + 1 = pc') (A : Arv Z h a k .char n vs dv) (h1 : ¬ j < 0) (h2 : j < n) (hv : vs.getD j.toNatClampNeg dv = v) (G : Go κ σ h ce sl pc' ls (v :: rest)) : Go κ σ h ce sl pc ls (.int j :: .ref a :: rest) := by
  subst hp
  obtain ⟨c', A1, A2, A3, A4, A5, A6, A7⟩ := A.inb h1 h2
  exact Go.calm D (fun p e s m args below meth c T locs hx hZ hown hby hml hh X eT => ⟨T, X, eT, fun t q => X.caload hx (by rw [eT]; exact A1.1) (State.isArrayOf_alike hZ.alike A1.2.1) A1.2.2 A7 (A5.at A7 hv) (g := mkF m pc ls (.int j :: .ref a :: rest)) rfl rfl (hb hby hd) t q⟩) G
theorem Go.baload (D : Amb κ l Z y code maxL ret rm h0 n0 Q) (hd : decode code pc = .ok (.baload, 1)) (hp : pc + 1 = pc') (A : Arv Z h a k .byte n vs dv) (h1 : ¬ j < 0) (h2 : j < n) (hv : vs.getD j.toNatClampNeg dv = v) (G : Go κ σ h ce sl pc' ls (v :: rest)) : Go κ σ h ce sl pc ls (.int j :: .ref a :: rest) := by
  subst hp
  obtain ⟨c', A1, A2, A3, A4, A5, A6, A7⟩ := A.inb h1 h2
  exact Go.calm D (fun p e s m args below meth c T locs hx hZ hown hby hml hh X eT => ⟨T, X, eT, fun t q => X.baloadBytes hx (by rw [eT]; exact A1.1) (State.isArrayOf_alike hZ.alike A1.2.1) A1.2.2 A7 (A5.at A7 hv) (g := mkF m pc ls (.int j :: .ref a :: rest)) rfl rfl (hb hby hd) t q⟩) G
theorem Go.iastore (D : Amb κ l Z y code maxL ret rm h0 n0 Q) {x : Int32} {i : Nat} (hd : decode code pc = .ok (.iastore, 1)) (hp : pc + 1 = pc') (A : Arv Z h a k .int n vs dv) (h1 : ¬ j < 0) (h2 : j < n) (hj : j.toNatClampNeg = i) (hi : i < vs.length) (ge : n0 ≤ a)
    (G : ∀ h', Keep h h' [a] → Arv Z h' a k .int n (vs.set i (.int x)) dv → Go κ σ h' ce sl pc' ls rest) : Go κ σ h ce sl pc ls (.int x :: .int j :: .ref a :: rest) := by
  subst hp
  obtain ⟨c', A1, A2, A3, A4, A5, A6, A7⟩ := A.inb h1 h2
  refine Go.turn D (P := fun h' => Keep h h' [a] ∧ Arv Z h' a k .int n (vs.set i (.int x)) dv) (fun p e s m args below meth c T locs hx hZ hown hby hml hnm X eT N => ?_) (fun h' q => G h' q.1 q.2)
  obtain ⟨T', h1, X', e', W, q⟩ := stI X hx hZ eT A1 A7 (g := mkF m pc ls (.int x :: .int j :: .ref a :: rest)) rfl rfl (hb hby hd)
  exact ⟨T', _, h1, X', e', Fr.snoc X' N ge, Gw.one (Keep.of_wr W) ge, ⟨Keep.of_wr W, Arv.set A1 A2 A3 A4 A5 A6 rfl W i hj hi⟩, q⟩
theorem Go.castore (D : Amb κ l Z y code maxL ret rm h0 n0 Q) {x x' : Int32} {i : Nat} (hd : decode code pc = .ok (.castore, 1)) (hp : pc + 1 = pc') (A : Arv Z h a k .char n vs dv) (h1 : ¬ j < 0) (h2 : j < n) (hj : j.toNatClampNeg = i) (hi : i < vs.length) (ge : n0 ≤ a) (hx' : nar .char x = x')
    (G : ∀ h', Keep h h' [a] → Arv Z h' a k .char n (vs.set i (.int x')) dv → Go κ σ h' ce sl pc' ls rest) : Go κ σ h ce sl pc ls (.int x :: .int j :: .ref a :: rest) := by
  subst hp hx'
  obtain ⟨c', A1, A2, A3, A4, A5, A6, A7⟩ := A.inb h1 h2
  refine Go.turn D (P := fun h' => Keep h h' [a] ∧ Arv Z h' a k .char n (vs.set i (.int (nar .char x))) dv) (fun p e s m args below meth c T locs hx hZ hown hby hml hnm X eT N => ?_) (fun h' q => G h' q.1 q.2)
  obtain ⟨T', h1, X', e', W, q⟩ := stC X hx hZ eT A1 A7 (g := mkF m pc ls (.int x :: .int j :: .ref a :: rest)) rfl rfl (hb hby hd)
  exact ⟨T', _, h1, X', e', Fr.snoc X' N ge, Gw.one (Keep.of_wr W) ge, ⟨Keep.of_wr W, Arv.set A1 A2 A3 A4 A5 A6 (fits_nar_char x) W i hj hi⟩, q⟩
theorem Go.bastore (D : Amb κ l Z y code maxL ret rm h0 n0 Q) {x x' : Int32} {i : Nat} (hd : decode code pc = .ok (.bastore, 1)) (hp : pc + 1 = pc') (A : Arv Z h a k .byte n vs dv) (h1 : ¬ j < 0) (h2 : j < n) (hj : j.toNatClampNeg = i) (hi : i < vs.length) (ge : n0 ≤ a) (hx' : nar .byte x = x')
    (G : ∀ h', Keep h h' [a] → Arv Z h' a k .byte n (vs.set i (.int x')) dv → Go κ σ h' ce sl pc' ls rest) : Go κ σ h ce sl pc ls (.int x :: .int j :: .ref a :: rest) := by
  subst hp hx'
  obtain ⟨c', A1, A2, A3, A4, A5, A6, A7⟩ := A.inb h1 h2
  refine Go.turn D (P := fun h' => Keep h h' [a] ∧ Arv Z h' a k .byte n (vs.set i (.int (nar .byte x))) dv) (fun p e s m args below meth c T locs hx hZ hown hby hml hnm X eT N => ?_) (fun h' q => G h' q.1 q.2)
  obtain ⟨T', h1, X', e', W, q⟩ := stB X hx hZ eT A1 A7 (g := mkF m pc ls (.int x :: .int j :: .ref a :: rest)) rfl rfl (hb hby hd)
  exact ⟨T', _, h1, X', e', Fr.snoc X' N ge, Gw.one (Keep.of_wr W) ge, ⟨Keep.of_wr W, Arv.set A1 A2 A3 A4 A5 A6 (fits_nar_byte x) W i hj hi⟩, q⟩
end Arrays
/-! classes of objects -/
theorem Go.castY (D : Amb κ l Z y code maxL ret rm h0 n0 Q) {idx : Nat} {K : String} {a : Addr} (w : (Jvm.Cond.classLink y.cls idx K).before a0 Z = true) (hd : decode code pc = .ok (.checkcast idx, 3)) (hp : pc + 3 = pc') (F : Ins Z h a K true) (G : Go κ σ h ce sl pc' ls (.ref a :: rest)) : Go κ σ h ce sl pc ls (.ref a :: rest) := by
  subst hp
  exact Go.calm D (fun p e s m args below meth c T locs hx hZ hown hby hml hh X eT => Jvm.RoadKit.castY X hx hZ hown w eT F (g := mkF m pc ls (.ref a :: rest)) rfl rfl (hb hby hd)) G
theorem Go.instY (D : Amb κ l Z y code maxL ret rm h0 n0 Q) {idx : Nat} {K : String} {a : Addr} (w : (Jvm.Cond.classLink y.cls idx K).before a0 Z = true) (hd : decode code pc = .ok (.instanceof idx, 3)) (hp : pc + 3 = pc') (F : Ins Z h a K true) (G : Go κ σ h ce sl pc' ls (.int 1 :: rest)) : Go κ σ h ce sl pc ls (.ref a :: rest) := by
  subst hp
  exact Go.calm D (fun p e s m args below meth c T locs hx hZ hown hby hml hh X eT => Jvm.RoadKit.instY X hx hZ hown w eT F (g := mkF m pc ls (.ref a :: rest)) rfl rfl (hb hby hd)) G
theorem Go.instN (D : Amb κ l Z y code maxL ret rm h0 n0 Q) {idx : Nat} {K C : String} {a : Addr} (w : (Jvm.Cond.classLink y.cls idx K).before a0 Z = true) (hd : decode code pc = .ok (.instanceof idx, 3)) (hp : pc + 3 = pc') (F : ∃ c t, Z.vm.findClass C = some c ∧ Z.vm.findClass K = some t ∧ Z.vm.assignable c t = false) (E : Exa Z h a C) (G : Go κ σ h ce sl pc' ls (.int 0 :: rest)) : Go κ σ h ce sl pc ls (.ref a :: rest) := by
  subst hp
  exact Go.calm D (fun p e s m args below meth c T locs hx hZ hown hby hml hh X eT => instNo X hx hZ hown w eT E F (g := mkF m pc ls (.ref a :: rest)) rfl rfl (hb hby hd)) G
theorem Go.instNull (D : Amb κ l Z y code maxL ret rm h0 n0 Q) {idx : Nat} (hd : decode code pc = .ok (.instanceof idx, 3)) (hp : pc + 3 = pc') (G : Go κ σ h ce sl pc' ls (.int 0 :: rest)) : Go κ σ h ce sl pc ls (.null :: rest) := by
  subst hp
  exact Go.calm D (fun p e s m args below meth c T locs hx hZ hown hby hml hh X eT => ⟨T, X, eT, X.instanceofNull hx (g := mkF m pc ls (.null :: rest)) rfl rfl (hb hby hd)⟩) G
theorem Go.acmpNe (D : Amb κ l Z y code maxL ret rm h0 n0 Q) {o : Int} {x z : Value} (h1 : x.isRef = true) (h2 : z.isRef = true) (hd : decode code pc = .ok (.if_acmp .ne o, 3)) (ho : 0 ≤ (pc : Int) + o) (hp : ((pc : Int) + o).toNat = pc') (hp2 : pc + 3 = pc2)
    (Gt : ¬ x = z → Go κ σ h ce sl pc' ls rest) (Gf : x = z → Go κ σ h ce sl pc2 ls rest) : Go κ σ h ce sl pc ls (z :: x :: rest) := by
  subst hp hp2
  by_cases q : x = z
  · exact Go.calm D (fun p e s m args below meth c T locs hx hZ hown hby hml hh X eT => ⟨T, X, eT, fun t k => acmp (g := mkF m pc ls (z :: x :: rest)) X hx rfl h1 h2 (same := true) rfl (hb hby hd) rfl (by simp [q]) ho (by simp [acV]) k⟩) (Gf q)
  · exact Go.calm D (fun p e s m args below meth c T locs hx hZ hown hby hml hh X eT => ⟨T, X, eT, fun t k => acmp (g := mkF m pc ls (z :: x :: rest)) X hx rfl h1 h2 (same := false) rfl (hb hby hd) rfl (by simp [q]) ho (by simp [acV]) k⟩) (Gt q)
theorem Go.acmpEq (D : Amb κ l Z y code maxL ret rm h0 n0 Q) {o : Int} {x z : Value} (h1 : x.isRef = true) (h2 : z.isRef = true) (hd : decode code pc = .ok (.if_acmp .eq o, 3)) (ho : 0 ≤ (pc : Int) + o) (hp : ((pc : Int) + o).toNat = pc') (hp2 : pc + 3 = pc2)
    (Gt : x = z → Go κ σ h ce sl pc' ls rest) (Gf : ¬ x = z → Go κ σ h ce sl pc2 ls rest) : Go κ σ h ce sl pc ls (z :: x :: rest) := by
  subst hp hp2
  by_cases q : x = z
  · exact Go.calm D (fun p e s m args below meth c T locs hx hZ hown hby hml hh X eT => ⟨T, X, eT, fun t k => acmp (g := mkF m pc ls (z :: x :: rest)) X hx rfl h1 h2 (same := true) rfl (hb hby hd) rfl (by simp [q]) ho (by simp [acV]) k⟩) (Gt q)
  · exact Go.calm D (fun p e s m args below meth c T locs hx hZ hown hby hml hh X eT => ⟨T, X, eT, fun t k => acmp (g := mkF m pc ls (z :: x :: rest)) X hx rfl h1 h2 (same := false) rfl (hb hby hd) rfl (by simp [q]) ho (by simp [acV]) k⟩) (Gf q)
/-! System.arraycopy -/
theorem Go.acopy (D : Amb κ l Z y code maxL ret rm h0 n0 Q) {idx sN dN nN : Nat} {a b : Addr} {k k' : ClassId} {ty : FieldType} {z z' sp dp nn : Int32} {vs vd : List Value} {dv dd : Value} (w1 : (Jvm.Cond.methodLink y.cls idx Jvm.Stand.acN).before a0 Z = true) (w2 : (Jvm.Cond.native Jvm.Stand.acN).before a0 Z = true) (w3 : (Jvm.Cond.static Jvm.Stand.acN).before a0 Z = true) (w4 : (Jvm.Cond.initialized "java/lang/System").before a0 Z = true)
    (hd : decode code pc = .ok (.invokestatic idx, 3)) (hp : pc + 3 = pc') (A : Arv Z h a k ty z vs dv) (B : Arv Z h b k' ty z' vd dd) (hty : refKind ty = false) (h1 : ¬ sp < 0) (h2 : ¬ dp < 0) (h3 : ¬ nn < 0) (e1 : sp.toNatClampNeg = sN) (e2 : dp.toNatClampNeg = dN) (e3 : nn.toNatClampNeg = nN) (h4 : sN + nN ≤ z.toNatClampNeg) (h5 : dN + nN ≤ z'.toNatClampNeg)
    (hl : dN + nN ≤ vd.length) (ge : n0 ≤ b) (hls : ls.size = maxL) (hf : 1 ≤ rm.frames) {W : Nat} (hW : (rest.map fun v => v.category).sum = W) (hlo : W + (nativeFrameWords "java/lang/System" "arraycopy" 5 + 11) ≤ rm.locals)
    (G : ∀ h', Keep h h' [b] → Arv Z h' b k' ty z' (vd.take dN ++ ((List.range nN).map fun i => vs.getD (sN + i) dv) ++ vd.drop (dN + nN)) dd → Go κ σ h' ce sl pc' ls rest) : Go κ σ h ce sl pc ls (.int nn :: .int dp :: .ref b :: .int sp :: .ref a :: rest) := by
  subst hp e1 e2 e3
  refine Go.turn D (P := fun h' => Keep h h' [b] ∧ Arv Z h' b k' ty z' (vd.take dp.toNatClampNeg ++ ((List.range nn.toNatClampNeg).map fun i => vs.getD (sp.toNatClampNeg + i) dv) ++ vd.drop (dp.toNatClampNeg + nn.toNatClampNeg)) dd) (fun p e s m args below meth c T locs hx hZ hown hby hml hnm X eT N => ?_) (fun h' q => G h' q.1 q.2)
  obtain ⟨T', h1, L, X', e', N', K, A', q⟩ := cpA X hx hZ hown w1 w2 w3 w4 eT A B (Or.inl ⟨rfl, hty⟩) h1 h2 h3 h4 h5 rfl hl N ge (g := mkF m pc ls (.int nn :: .int dp :: .ref b :: .int sp :: .ref a :: rest)) rfl (hls.trans hml.symm) rfl (hb hby hd) hf (W := W) (by show 2 * 0 + _ ≤ _; rw [hW]; omega) hlo
  exact ⟨T', L, h1, X', e', N', Gw.one K ge, ⟨K, A'⟩, q⟩
theorem nin1 {x y : Addr} (q : x ≠ y) : x ∉ [y] := fun z => q (List.mem_singleton.mp z)
/-! calls -/
section Calls
variable {z : MethodName} {bytes : ByteArray} {maxLz : Nat} {retz : Option FieldType} {rmz : Room} {argsL : List Value} {Qz : Option Value → Heap → Sg → Prop} {idx : Nat} {ps : List FieldType} {rt : Option FieldType}
theorem backOfW {p : Program} {e : Env} {R : Room} {s : State} {args : Array Value} {below : List Frame} {len W : Nat} (hM : Con l Z z bytes maxLz retz rmz [] as σ h n0 Qz)
    (hZ : Z.Warmed39 s.vm) (wc : (Jvm.Cond.code z bytes maxLz retz).before a0 Z = true) (wz : (Jvm.Cond.initialized z.cls).before a0 Z = true) (hf : rmz.frames + 1 ≤ R.frames) (hl : W + (maxLz + 11) + rmz.locals ≤ R.locals) :
    BackS l R p e below s args z len W (fun A a => a = as ∧ A.U.heap = h ∧ A.cells + rmz.cells ≤ R.cells ∧ A.slots + rmz.slots ≤ R.slots ∧ VOk Z A.U.vm σ ∧ Old Z n0 A.U.heap)
      (fun A _ v B => ∃ L σ', (Fr n0 L ∧ VOk Z B.U.vm σ' ∧ Old Z n0 B.U.heap ∧ Qz v B.U.heap σ') ∧ B.locs = A.locs ++ L ∧ B.cells = A.cells + rmz.cells ∧ B.slots = A.slots + rmz.slots) :=
  BackS.of_freeW (bytes := bytes) (maxL := maxLz) (ret := retz) (E := fun _ _ o t L k n => k = rmz.cells ∧ n = rmz.slots ∧ ∃ v σ', o = .returned v ∧ (Fr n0 L ∧ VOk Z t.vm σ' ∧ Old Z n0 t.heap ∧ Qz v t.heap σ')) hM hf hl
    (fun m meth c A a Y hp => have hU : Z.Warmed39 A.U.vm := wtrans hZ Y.warmed
      ⟨by show (Jvm.Cond.and _ .tt).before a A.U = true; rw [Cond.before_and, mv hU wc]; rfl, mv hU wc, mv hU wz, hp.2.2.1, hp.2.2.2.1⟩)
    (fun m meth c A a g mk Y hp => ⟨hp.1, wtrans hZ Y.warmed, hp.2.1, hp.2.2.2.2.1, hp.2.2.2.2.2⟩) (fun _ _ _ _ _ _ _ _ _ => trivial)
    (fun _ _ _ _ ⟨v, L, σ', h1, h2, h3⟩ => ⟨L, _, _, h3, rfl, rfl, v, σ', h1, h2⟩)
    (fun m meth c A a g mk v t L k n Y hp _ _ ⟨e1, e2, v', σ', e3, e4⟩ => by cases e3; subst e1 e2; exact ⟨L, σ', e4, rfl, rfl, rfl⟩)
theorem Go.callS (D : Amb κ l Z y code maxL ret rm h0 n0 Q) (M : Con l Z z bytes maxLz retz rmz [] argsL.toArray σ h n0 Qz) (w1 : (Jvm.Cond.methodLink y.cls idx z).before a0 Z = true) (w2 : (Jvm.Cond.static z).before a0 Z = true) (w3 : (Jvm.Cond.initialized z.cls).before a0 Z = true) (w4 : (Jvm.Cond.code z bytes maxLz retz).before a0 Z = true)
    (hz : z.cls ≠ "java/lang/invoke/MethodHandle" ∧ z.cls ≠ "java/lang/invoke/VarHandle") (hd : decode code pc = .ok (.invokestatic idx, 3)) (hp : pc + 3 = pc') (hpd : parseMethodDescriptor z.desc = some ⟨ps, rt⟩) (hlen : argsL.length = ps.length) (hst : st = argsL.reverse ++ rest) (hls : ls.size = maxL)
    (hf : rmz.frames + 1 ≤ rm.frames) {W : Nat} (hW : (rest.map fun v => v.category).sum = W) (hlo : W + (maxLz + 11) + rmz.locals ≤ rm.locals) (hce : ce + rmz.cells ≤ ce') (hsl : sl + rmz.slots ≤ sl') (hc : ce' ≤ rm.cells) (hs : sl' ≤ rm.slots)
    (G : ∀ v h' σ', Qz v h' σ' → Go κ σ' h' ce' sl' pc' ls (v.toList ++ rest)) : Go κ σ h ce sl pc ls st := by
  subst hp
  obtain ⟨p, l', e, R, s, m, args, below, meth, c, Z', n0', Q'⟩ := κ
  obtain ⟨rfl, rfl, rfl, rfl, hQ, hx, hZ, hown, hby, hml, hret, hlk, hnm, hh⟩ := D
  intro vm0 k0 T locs X hS hk V O eT N
  have hZ0 : Z'.Warmed39 (s.setVm vm0).vm := State.Warmed39.trans (t := s) hZ hS.1
  have hown0 : (s.setVm vm0).vm.findClass y.cls = some m.cls := by show vm0.findClass _ = _; rw [hS.1.alike.findClass]; exact hown
  obtain ⟨v, vm₁, ⟨T1, L1, k1, n1⟩, -, X1, hS1, hsz, ⟨Lc, σ', hQ1, l1, y1, z1⟩, st1⟩ := callSS X hx (y := z) hown0 (mvT hZ0 w1) (mvT hZ0 w2) (mvT hZ0 w3) (mvT hZ0 w4) hz (backOfW (W := W) M hZ0 w4 w3 hf hlo) (g := mkF m pc ls st) rfl (hls.trans hml.symm) (argsL := argsL) (rest := rest) (lenOf hpd hlen) hst (by show 2 * 0 + _ ≤ _; rw [hW]; omega) (hb hby hd) (fun vm₁ hw1 => ⟨rfl, eT, Nat.le_trans hce hc, Nat.le_trans hsl hs, V.warm hw1, by show Old _ _ T.heap; rw [eT]; exact O⟩)
  dsimp only [Pt.U, Pt.locs, Pt.cells, Pt.slots] at X1 l1 y1 z1 st1 hQ1 hS1 hsz
  subst l1 y1 z1
  obtain ⟨s₂, o, g1, g2⟩ := G v T1.heap σ' hQ1.2.2.2 T1.vm T1.heap.size T1 _ (sd_mono X1 hce hsl) (hS.trans hS1 (by rw [eT] at hsz; exact Nat.le_trans hk hsz)) (Nat.le_refl _) hQ1.2.1 hQ1.2.2.1 rfl (Fr.app N hQ1.1)
  exact ⟨s₂, o, st1.trans g1, g2⟩
theorem Go.callI (D : Amb κ l Z y code maxL ret rm h0 n0 Q) {a : Addr} (M : Con l Z z bytes maxLz none rmz [] (.ref a :: argsL).toArray σ h n0 Qz) (hz1 : z.name = "<init>") (w1 : (Jvm.Cond.methodLink y.cls idx z).before a0 Z = true) (w2 : (Jvm.Cond.instanceMethod z).before a0 Z = true) (w3 : (Jvm.Cond.initialized z.cls).before a0 Z = true) (w4 : (Jvm.Cond.code z bytes maxLz none).before a0 Z = true)
    (hz : z.cls ≠ "java/lang/invoke/MethodHandle" ∧ z.cls ≠ "java/lang/invoke/VarHandle") (hd : decode code pc = .ok (.invokespecial idx, 3)) (hp : pc + 3 = pc') (hpd : parseMethodDescriptor z.desc = some ⟨ps, rt⟩) (hlen : argsL.length = ps.length) (hst : st = argsL.reverse ++ .ref a :: rest) (hls : ls.size = maxL)
    (hf : rmz.frames + 1 ≤ rm.frames) {W : Nat} (hW : (rest.map fun v => v.category).sum = W) (hlo : W + (maxLz + 11) + rmz.locals ≤ rm.locals) (hce : ce + rmz.cells ≤ ce') (hsl : sl + rmz.slots ≤ sl') (hc : ce' ≤ rm.cells) (hs : sl' ≤ rm.slots)
    (G : ∀ v h' σ', Qz v h' σ' → Go κ σ' h' ce' sl' pc' ls (v.toList ++ rest)) : Go κ σ h ce sl pc ls st := by
  subst hp
  obtain ⟨p, l', e, R, s, m, args, below, meth, c, Z', n0', Q'⟩ := κ
  obtain ⟨rfl, rfl, rfl, rfl, hQ, hx, hZ, hown, hby, hml, hret, hlk, hnm, hh⟩ := D
  intro vm0 k0 T locs X hS hk V O eT N
  have hZ0 : Z'.Warmed39 (s.setVm vm0).vm := State.Warmed39.trans (t := s) hZ hS.1
  have hown0 : (s.setVm vm0).vm.findClass y.cls = some m.cls := by show vm0.findClass _ = _; rw [hS.1.alike.findClass]; exact hown
  obtain ⟨v, vm₁, ⟨T1, L1, k1, n1⟩, -, X1, hS1, hsz, ⟨Lc, σ', hQ1, l1, y1, z1⟩, st1⟩ := X.specialBackS hx (y := z) hz1 hown0 (mvT hZ0 w1) (mvT hZ0 w2) (mvT hZ0 w4) hz (backOfW (W := W) M hZ0 w4 w3 hf hlo) (g := mkF m pc ls st) rfl (hls.trans hml.symm) (Steps.refl _) (a := a) (argsL := argsL) (rest := rest) (lenOf hpd hlen) hst (by show 2 * 0 + _ ≤ _; rw [hW]; omega) (hb hby hd) (fun vm₁ hw1 => ⟨rfl, eT, Nat.le_trans hce hc, Nat.le_trans hsl hs, V.warm hw1, by show Old _ _ T.heap; rw [eT]; exact O⟩)
  dsimp only [Pt.U, Pt.locs, Pt.cells, Pt.slots] at X1 l1 y1 z1 st1 hQ1 hS1 hsz
  subst l1 y1 z1
  obtain ⟨s₂, o, g1, g2⟩ := G v T1.heap σ' hQ1.2.2.2 T1.vm T1.heap.size T1 _ (sd_mono X1 hce hsl) (hS.trans hS1 (by rw [eT] at hsz; exact Nat.le_trans hk hsz)) (Nat.le_refl _) hQ1.2.1 hQ1.2.2.1 rfl (Fr.app N hQ1.1)
  exact ⟨s₂, o, st1.trans g1, g2⟩
theorem Go.callV (D : Amb κ l Z y code maxL ret rm h0 n0 Q) {a : Addr} {C : String} {zr : MethodName} (M : Con l Z z bytes maxLz retz rmz [] (.ref a :: argsL).toArray σ h n0 Qz) (w1 : (Jvm.Cond.methodLink y.cls idx zr).before a0 Z = true) (w2 : (Jvm.Cond.declares zr).before a0 Z = true) (ws : (Jvm.Cond.selects C zr z).before a0 Z = true) (wi : (Jvm.Cond.instanceMethod z).before a0 Z = true) (w3 : (Jvm.Cond.initialized z.cls).before a0 Z = true) (w4 : (Jvm.Cond.code z bytes maxLz retz).before a0 Z = true)
    (nf : ∀ s : State, Z.Warmed39 s.vm → NotFace s zr) (hz : zr.cls ≠ "java/lang/invoke/MethodHandle" ∧ zr.cls ≠ "java/lang/invoke/VarHandle") (E : Exa Z h a C) (hd : decode code pc = .ok (.invokevirtual idx, 3)) (hp : pc + 3 = pc') (hpd : parseMethodDescriptor zr.desc = some ⟨ps, rt⟩) (hlen : argsL.length = ps.length) (hst : st = argsL.reverse ++ .ref a :: rest) (hls : ls.size = maxL)
    (hf : rmz.frames + 1 ≤ rm.frames) {W : Nat} (hW : (rest.map fun v => v.category).sum = W) (hlo : W + (maxLz + 11) + rmz.locals ≤ rm.locals) (hce : ce + rmz.cells ≤ ce') (hsl : sl + rmz.slots ≤ sl') (hc : ce' ≤ rm.cells) (hs : sl' ≤ rm.slots)
    (G : ∀ v h' σ', Qz v h' σ' → Go κ σ' h' ce' sl' pc' ls (v.toList ++ rest)) : Go κ σ h ce sl pc ls st := by
  subst hp
  obtain ⟨p, l', e, R, s, m, args, below, meth, c, Z', n0', Q'⟩ := κ
  obtain ⟨rfl, rfl, rfl, rfl, hQ, hx, hZ, hown, hby, hml, hret, hlk, hnm, hh⟩ := D
  intro vm0 k0 T locs X hS hk V O eT N
  have hZ0 : Z'.Warmed39 (s.setVm vm0).vm := State.Warmed39.trans (t := s) hZ hS.1
  have hown0 : (s.setVm vm0).vm.findClass y.cls = some m.cls := by show vm0.findClass _ = _; rw [hS.1.alike.findClass]; exact hown
  obtain ⟨cq, kq, q1, q2, q3⟩ := isOf hZ0 eT E
  obtain ⟨v, vm₁, ⟨T1, L1, k1, n1⟩, -, X1, hS1, hsz, ⟨Lc, σ', hQ1, l1, y1, z1⟩, st1⟩ := X.virtualBackS hx (y := zr) (z := z) hown0 (mvT hZ0 w1) (mvT hZ0 w2) (nf _ hZ0) (mvT hZ0 ws) (mvT hZ0 wi) hz (backOfW (W := W) M hZ0 w4 w3 hf hlo) q1 q3 (g := mkF m pc ls st) rfl (hls.trans hml.symm) (Steps.refl _) (argsL := argsL) (rest := rest) (lenOf hpd hlen) hst (by show 2 * 0 + _ ≤ _; rw [hW]; omega) (hb hby hd) (fun vm₁ hw1 => ⟨rfl, eT, Nat.le_trans hce hc, Nat.le_trans hsl hs, V.warm hw1, by show Old _ _ T.heap; rw [eT]; exact O⟩)
  dsimp only [Pt.U, Pt.locs, Pt.cells, Pt.slots] at X1 l1 y1 z1 st1 hQ1 hS1 hsz
  subst l1 y1 z1
  obtain ⟨s₂, o, g1, g2⟩ := G v T1.heap σ' hQ1.2.2.2 T1.vm T1.heap.size T1 _ (sd_mono X1 hce hsl) (hS.trans hS1 (by rw [eT] at hsz; exact Nat.le_trans hk hsz)) (Nat.le_refl _) hQ1.2.1 hQ1.2.2.1 rfl (Fr.app N hQ1.1)
  exact ⟨s₂, o, st1.trans g1, g2⟩
theorem nfS {C : String} {y : MethodName} (h : (Jvm.Cond.selects C y y).before a0 Z = true) : ∀ s : State, Z.Warmed39 s.vm → NotFace s y := fun s hZ => notFace_of_selects (args := #[]) (mvT hZ h)
end Calls
/-! String constants -/
/-- a constant whose text nobody reads -/
theorem Go.ldcR (D : Amb κ l Z y code maxL ret rm h0 n0 Q) {idx n : Nat} {text : String} (w : (Jvm.Cond.stringLink y.cls idx text).before a0 Z = true) (wS : ∀ a ∈ Bundle.stringAtoms, a.before a0 Z = true) (hd : decode code pc = .ok (.ldc idx, 2)) (hp : pc + 2 = pc') (hn : 4 * text.toList.length ≤ n) (hbig : n ≤ 536870912) (hce : ce + 2 = ce') (hsl : sl + (n + 4) = sl') (hc : ce' ≤ rm.cells) (hs : sl' ≤ rm.slots)
    (G : ∀ h' a, Ext h h' → Go κ none h' ce' sl' pc' ls (.ref a :: st)) : Go κ none h ce sl pc ls st := by
  subst hp hce hsl
  obtain ⟨p, l', e, R, s, m, args, below, meth, c, Z', n0', Q'⟩ := κ
  obtain ⟨rfl, rfl, rfl, rfl, hQ, hx, hZ, hown, hby, hml, hret, hlk, hnm, hh⟩ := D
  intro vm0 k0 T locs X hS hk V O eT N
  have hZ0 : Z'.Warmed39 vm0 := State.Warmed39.trans (t := s) hZ hS.1
  have hown0 : vm0.findClass y.cls = some m.cls := by rw [hS.1.alike.findClass]; exact hown
  obtain ⟨a, T', h', k1, X', eT', E, hS', hk', -, -, k⟩ := ldcS X hx hZ0 hown0 w wS eT hS hk (g := mkF m pc ls st) rfl (hb hby hd) hn hbig hc hs
  obtain ⟨s₂, o, g1, g2⟩ := G h' a E T'.vm k1 T' locs X' hS' hk' trivial (O.ext E) eT' N
  exact ⟨s₂, o, k _ g1, g2⟩
/-- the same place of a walk, over a start that has the heap and the tables at hand -/
theorem reb {p : Program} {e : Env} {R : Room} {s : State} {m : MethodId} {args : Array Value} {below : List Frame} {meth : Method} {c : Code} {T : State} {locs : List Loc} (X : Stand p l e R s m args below meth c T locs ce sl) (hc : ce ≤ R.cells) (hs : sl ≤ R.slots) :
    Stand p l e { R with cells := R.cells - ce, slots := R.slots - sl } ({ (s.setVm T.vm) with heap := T.heap, slotsUsed := T.slotsUsed } : State) m args below meth c T [] 0 0 := by
  have Y := X.retabled X.warmed.wide
  refine { admits := X.admits, cas := X.cas, clock := X.clock, frames := X.frames, room := ?_, hears := Y.hears, method := Y.method, code := X.code, here := X.here, tail := X.tail, warmed := State.WarmedH.refl _, limits := X.limits, bytes := X.bytes, same := ?_ }
  · have r := Y.room
    have b := X.book
    have h1 := X.heapSize
    have h2 := X.used
    simp only [State.hasRoom, Bool.and_eq_true, decide_eq_true_eq] at r ⊢
    obtain ⟨⟨⟨⟨r1, r2⟩, r3⟩, r4⟩, r5⟩ := r
    refine ⟨⟨⟨⟨r1, r2⟩, ?_⟩, ?_⟩, b⟩
    · have r3' : s.heap.size + R.cells ≤ e.platform.maxCells := r3
      show T.heap.size + (R.cells - ce) ≤ e.platform.maxCells
      omega
    · have r4' : s.slotsUsed + R.slots ≤ e.platform.maxSlots := r4
      show T.slotsUsed + (R.slots - sl) ≤ e.platform.maxSlots
      omega
  · refine ⟨?_, Nat.le_refl _, by show T.heap.size ≤ T.heap.size + 0; omega, ?_, ?_, fun a c hc => ⟨c, hc, rfl, rfl, fun _ _ => rfl⟩⟩
    · have q := congrArg (fun u : State => u.setVm T.vm) X.same.1
      exact q
    · show T.slotsUsed = T.slotsUsed + ((T.heap.toList.drop T.heap.size).map (·.slots.size)).sum
      rw [List.drop_eq_nil_of_le (by simp)]; simp
    · show ((T.heap.toList.drop T.heap.size).map (·.slots.size)).sum ≤ 0
      rw [List.drop_eq_nil_of_le (by simp)]; simp
/-- a String that spells these bytes -/
def SC (Z : State) (h : Heap) (a : Addr) (z : Int32) (vs : List Value) : Prop := Exa Z h a "java/lang/String" ∧ Fld Z h a "java/lang/String" "coder" "B" (.int 0) ∧ ∃ (b : Addr) (k : ClassId), Fld Z h a "java/lang/String" "value" "[B" (.ref b) ∧ Arv Z h b k .byte z vs (.int 0)
theorem SC.ext {a : Addr} {z : Int32} {vs : List Value} (F : SC Z h a z vs) (E : Ext h h') : SC Z h' a z vs := by
  obtain ⟨f1, f2, b, k, f3, f4⟩ := F
  exact ⟨f1.ext E, f2.ext E, b, k, f3.ext E, f4.ext E⟩
theorem SC.wr {a s : Addr} {C : String} {n sl : Nat} {v : Value} {z : Int32} {vs : List Value} (S : SC Z h a z vs) (W : Wr h h' s sl v) (q : a ≠ s) (E : Exa Z h s C) (wi : (Jvm.Cond.instantiable C n).before a0 Z = true) : SC Z h' a z vs := by
  obtain ⟨f1, f2, b, k, f3, f4⟩ := S
  exact ⟨f1.wr W, f2.other W (Or.inl q), b, k, f3.other W (Or.inl q), f4.other W (Ne.symm (Exa.neArv E f4 wi))⟩
/-- a constant that this walk has loaded -/
theorem Go.ldcA (D : Amb κ l Z y code maxL ret rm h0 n0 Q) {idx : Nat} {text : String} {L : List (String × Nat × String × Addr)} {a : Addr} (w : (Jvm.Cond.stringLink y.cls idx text).before a0 Z = true) (ha : (y.cls, idx, text, a) ∈ L) (hd : decode code pc = .ok (.ldc idx, 2)) (hp : pc + 2 = pc') (G : Go κ (some L) h ce sl pc' ls (.ref a :: st)) : Go κ (some L) h ce sl pc ls st := by
  subst hp
  obtain ⟨p, l', e, R, s, m, args, below, meth, c, Z', n0', Q'⟩ := κ
  obtain ⟨rfl, rfl, rfl, rfl, hQ, hx, hZ, hown, hby, hml, hret, hlk, hnm, hh0⟩ := D
  intro vm0 k0 T locs X hS hk V O eT N
  have hZ0 : Z'.Warmed39 vm0 := State.Warmed39.trans (t := s) hZ hS.1
  have hown0 : vm0.findClass y.cls = some m.cls := by rw [hS.1.alike.findClass]; exact hown
  have Lt : Lit (s.setVm vm0) y.cls idx a := V.2 _ ha
  have k := ldcAgain X hx hZ0 hown0 w Lt (g := mkF m pc ls st) rfl (hb hby hd)
  obtain ⟨s₂, o, g1, g2⟩ := G vm0 k0 T locs X hS hk V O eT N
  exact ⟨s₂, o, k _ g1, g2⟩
/-- a constant whose text is read -/
theorem Go.ldcT (D : Amb κ l Z y code maxL ret rm h0 n0 Q) {idx n : Nat} {text : String} {L : List (String × Nat × String × Addr)} {vs : List Value} {z : Int32} (w : (Jvm.Cond.stringLink y.cls idx text).before a0 Z = true) (wS : ∀ a ∈ Bundle.stringAtoms, a.before a0 Z = true) (hh : Jvm.Lit.constHeld Z y.cls idx) (hcw : Jvm.Lit.compactW.before a0 Z = true)
    (ht : (∀ c ∈ text.toList, c.toNat < 256) ∧ text.toList.map (fun c => Value.int (Jvm.Lit.byteI c.toNat.toUInt16)) = vs) (hz : ¬ z < 0) (hl : z.toNatClampNeg = vs.length) (hL : (∃ a, (y.cls, idx, text, a) ∈ L) ∨ text ∉ L.map fun q => q.2.2.1) (I : ∀ a, (y.cls, idx, text, a) ∈ L → SC Z h a z vs)
    (hd : decode code pc = .ok (.ldc idx, 2)) (hp : pc + 2 = pc') (hn : 4 * text.toList.length ≤ n) (hbig : n ≤ 536870912) (hce : ce + 2 = ce') (hsl : sl + (n + 4) = sl') (hc : ce' ≤ rm.cells) (hs : sl' ≤ rm.slots)
    (G : ∀ h' a L', Ext h h' → (y.cls, idx, text, a) ∈ L' → (L' = L ∨ L' = (y.cls, idx, text, a) :: L) → SC Z h' a z vs → Go κ (some L') h' ce' sl' pc' ls (.ref a :: st)) : Go κ (some L) h ce sl pc ls st := by
  subst hp hce hsl
  obtain ⟨p, l', e, R, s, m, args, below, meth, c, Z', n0', Q'⟩ := κ
  obtain ⟨rfl, rfl, rfl, rfl, hQ, hx, hZ, hown, hby, hml, hret, hlk, hnm, hh0⟩ := D
  intro vm0 k0 T locs X hS hk V O eT N
  have hZ0 : Z'.Warmed39 vm0 := State.Warmed39.trans (t := s) hZ hS.1
  have hown0 : vm0.findClass y.cls = some m.cls := by rw [hS.1.alike.findClass]; exact hown
  rcases hL with ⟨a, ha⟩ | hnot
  · have Lt : Lit (s.setVm vm0) y.cls idx a := V.2 _ ha
    have k := ldcAgain X hx hZ0 hown0 w Lt (g := mkF m pc ls st) rfl (hb hby hd)
    obtain ⟨s₂, o, g1, g2⟩ := G h a L ⟨Nat.le_refl _, fun _ _ q => q⟩ ha (Or.inl rfl) (I a ha) vm0 k0 T locs (sd_mono X (by omega) (by omega)) hS hk V O eT N
    exact ⟨s₂, o, k _ g1, g2⟩
  · have hc0 : ce ≤ R.cells := by omega
    have hs0 : sl ≤ R.slots := by omega
    have Y := reb X hc0 hs0
    have hZT : Z'.Warmed39 T.vm := State.Warmed39.trans (t := s.setVm vm0) hZ0 X.warmed.wide
    have hownT : T.vm.findClass y.cls = some m.cls := by rw [X.warmed.alike.findClass]; exact hown0
    have VT : VOk Z' T.vm (some L) := V.warm X.warmed
    obtain ⟨a, T', h', k1, b, kb, X', eT', E, hS', hk', hW', -, F1, F2, F3, F4, -, -, hI, hLit, k⟩ := ldcSVL (s := ({ ((s.setVm vm0).setVm T.vm) with heap := T.heap, slotsUsed := T.slotsUsed } : State)) (vm0 := T.vm) Y hx hZT hownT w wS eT (k0 := h.size) ((State.WarmedH.refl _).since _) (Nat.le_refl _) (Fr.nil _) (fun b cl hb => by show T.heap[b]? = _; rw [eT]; exact O.2.2 b cl hb) VT.1 hnot hh hcw ht hz hl (g := mkF m pc ls st) rfl (hb hby hd) hn hbig (by show 0 + 2 ≤ R.cells - ce; omega) (by show 0 + (n + 4) ≤ R.slots - sl; omega)
    have hT39 : T.Warmed39 T'.vm := hS'.1
    have hTB : T.Booked T'.vm T'.heap.size := State.Booked.mono (s := T) hS'.2 (by rw [eT']; exact hk')
    have hsame : T.sameButNew (T'.setVm T.vm) [] 2 (n + 4) := by
      obtain ⟨q1, q2, q3, q4, q5, q6⟩ := X'.same
      refine ⟨?_, q2, by have := q3; simp only [Nat.zero_add] at this; exact this, q4, by have := q5; simp only [Nat.zero_add] at this; exact this, q6⟩
      have r1 := congrArg (fun u : State => u.setVm T.vm) q1
      have r2 : (T'.setVm T.vm) = ({ ((s.setVm vm0).setVm T.vm).setFrames T'.frames with heap := T'.heap, slotsUsed := T'.slotsUsed } : State) := r1
      have r3 := congrArg (fun u : State => ({ (u.setVm T.vm).setFrames T'.frames with heap := T'.heap, slotsUsed := T'.slotsUsed } : State)) X.same.1
      have r4 : ({ T.setFrames T'.frames with heap := T'.heap, slotsUsed := T'.slotsUsed } : State) = ({ (((s.setVm vm0).setVm T.vm).setFrames T.frames).setFrames T'.frames with heap := T'.heap, slotsUsed := T'.slotsUsed } : State) := r3
      rw [State.setFrames_setFrames] at r4
      exact r2.trans r4.symm
    obtain ⟨X2, hS2⟩ := X.movedW X'.here X'.tail (X'.limits.trans X.limits.symm) (X'.bytes.trans X.bytes.symm) hT39 hTB hsame
    have V2 : VOk Z' T'.vm (some ((y.cls, idx, text, a) :: L)) := by
      refine ⟨hI, fun q hq => ?_⟩
      rcases List.mem_cons.mp hq with rfl | hq
      · exact hLit
      · have h1 : Lit (T.setVm T.vm) q.1 q.2.1 q.2.2.2 := VT.2 q hq
        exact Lit.stays (s := T) (vm0 := T.vm) h1 hT39
    have hle : h.size ≤ T'.heap.size := by rw [eT']; exact E.1
    obtain ⟨s₂, o, g1, g2⟩ := G h' a _ E (List.mem_cons_self ..) (Or.inr rfl) ⟨F1, F2, b, kb, F3, F4⟩ T'.vm T'.heap.size T' (locs ++ []) X2 (hS.trans hS2 (Nat.le_trans hk hle)) (by rw [eT']; exact Nat.le_refl _) V2 (O.ext E) eT' (by rw [List.append_nil]; exact N)
    exact ⟨s₂, o, k _ g1, g2⟩
end Rules
end Jvm.OwnKit

namespace Jvm.Pilot.@@N@@
open Jvm Jvm.ClassFile Sem Op Lib Jvm.Free Jvm.Stand Jvm.LawKit Jvm.RoadKit Bundle Jvm.OwnKit Jvm.Pilot.@@N@@.Jvm.D

/-! numbers -/
theorem own_ti {i : Nat} (h : i < 2147483648) : (Int32.ofNat i).toInt = i := Int32.toInt_ofNat_small (by omega)
theorem own_tn {i : Nat} (h : i < 2147483648) : (Int32.ofNat i).toNatClampNeg = i := by simp only [Int32.toNatClampNeg, own_ti h]; rfl
theorem own_nn {i : Nat} (h : i < 2147483648) : ¬ Int32.ofNat i < 0 := by rw [Int32.lt_iff_toInt_lt, own_ti h]; show ¬ (i : Int) < 0; omega
theorem own_lt {i j : Nat} (hi : i < 2147483648) (hj : j < 2147483648) : Int32.ofNat i < Int32.ofNat j ↔ i < j := by rw [Int32.lt_iff_toInt_lt, own_ti hi, own_ti hj]; omega
theorem own_inj {i j : Nat} (hi : i < 2147483648) (hj : j < 2147483648) (h : Int32.ofNat i = Int32.ofNat j) : i = j := by
  have := congrArg Int32.toInt h; rw [own_ti hi, own_ti hj] at this; omega
theorem own_succ (i : Nat) : Int32.ofNat i + 1 = Int32.ofNat (i + 1) := Int32.ofNat_succ i
theorem own_ne {a b : Nat} (h : a < b ∨ b < a) : a ≠ b := fun e => by subst e; omega
theorem own_ltn {a b : Nat} (h : a < b) : a < b := h
/-! chars and bytes -/
def bv (cs : List Int32) : List Value := cs.map fun c => Value.int c.toInt8.toInt32
def Lat (cs : List Int32) : Prop := (∀ c ∈ cs, ¬ c < 0 ∧ c < 256) ∧ cs.length ≤ 64
theorem bv_len (cs : List Int32) : (bv cs).length = cs.length := by simp [bv]
theorem own_bb (x : Int32) : nar .byte (x.toInt8.toInt32) = x.toInt8.toInt32 := by
  show x.toInt8.toInt32.toInt8.toInt32 = x.toInt8.toInt32
  rw [Int8.toInt8_toInt32]
theorem byte_inj {c d : Int32} (hc : ¬ c < 0 ∧ c < 256) (hd : ¬ d < 0 ∧ d < 256) (h : c.toInt8.toInt32 = d.toInt8.toInt32) : c = d := by
  have a := c_i2b c
  have b := c_i2b d
  rw [h] at a
  simp only [Int32.lt_iff_toInt_lt, show (0 : Int32).toInt = 0 from rfl, show (256 : Int32).toInt = 256 from rfl] at hc hd
  apply Int32.toInt_inj.mp
  omega
theorem bv_inj {cs ds : List Int32} (hc : ∀ c ∈ cs, ¬ c < 0 ∧ c < 256) (hd : ∀ c ∈ ds, ¬ c < 0 ∧ c < 256) (h : bv cs = bv ds) : cs = ds := by
  induction cs generalizing ds with
  | nil =>
    cases ds with
    | nil => rfl
    | cons d ds => simp [bv] at h
  | cons c cs ih =>
    cases ds with
    | nil => simp [bv] at h
    | cons d ds =>
      simp only [bv, List.map_cons, List.cons.injEq, Value.int.injEq] at h
      rw [byte_inj (hc c (by simp)) (hd d (by simp)) h.1, ih (fun x hx => hc x (by simp [hx])) (fun x hx => hd x (by simp [hx])) h.2]
theorem cs_at {cs : List Int32} {i : Nat} (h : i < cs.length) (d : Value) : (cs.map Value.int).getD i d = .int cs[i] := by simp [h]
theorem bv_at {cs : List Int32} {i : Nat} (h : i < cs.length) (d : Value) : (bv cs).getD i d = .int (cs[i].toInt8.toInt32) := by simp [bv, h]
theorem own_bset {cs : List Int32} {i : Nat} (h : i < cs.length) : ((bv cs).take i ++ List.replicate (cs.length - i) (Value.int 0)).set i (.int (cs[i].toInt8.toInt32)) = (bv cs).take (i + 1) ++ List.replicate (cs.length - (i + 1)) (Value.int 0) := by
  have hl : ((bv cs).take i).length = i := by rw [List.length_take, bv_len]; omega
  rw [show cs.length - i = (cs.length - (i + 1)) + 1 by omega, List.replicate_succ, List.set_append_right _ _ (by omega), hl, Nat.sub_self, List.set_cons_zero, List.take_succ]
  have : (bv cs)[i]? = some (Value.int (cs[i].toInt8.toInt32)) := by simp [bv, h]
  rw [this]
  simp
theorem lat_le {c : Int32} (h : ¬ c < 0 ∧ c < 256) : ¬ (255 : Int32) < c := by
  simp only [Int32.lt_iff_toInt_lt, show (0 : Int32).toInt = 0 from rfl, show (256 : Int32).toInt = 256 from rfl, show (255 : Int32).toInt = 255 from rfl] at h ⊢
  omega
/-- the String a spells cs -/
def Str (Z : State) (h : Heap) (a : Addr) (cs : List Int32) : Prop := SC Z h a (Int32.ofNat cs.length) (bv cs) ∧ Lat cs
theorem Str.ext {Z : State} {h h' : Heap} {a : Addr} {cs : List Int32} (S : Str Z h a cs) (E : Ext h h') : Str Z h' a cs := ⟨S.1.ext E, S.2⟩
theorem Arv.uniq {Z : State} {h : Heap} {a : Addr} {k k' : ClassId} {ty : FieldType} {n n' : Int32} {vs ws : List Value} {d : Value} (A : Arv Z h a k ty n vs d) (B : Arv Z h a k' ty n' ws d) (hv : vs.length = n.toNatClampNeg) (hw : ws.length = n'.toNatClampNeg) : vs = ws := by
  obtain ⟨c, A1, -, A3, -, A5, -⟩ := A
  obtain ⟨c', B1, -, B3, -, B5, -⟩ := B
  cases A1.1.symm.trans B1.1
  apply List.ext_getElem (by omega)
  intro i h1 h2
  have q := (A5 i (by omega)).symm.trans (B5 i (by omega))
  simpa [h1, h2] using q
theorem Str.uniq {Z : State} {h : Heap} {a : Addr} {cs ds : List Int32} (S : Str Z h a cs) (S' : Str Z h a ds) : cs = ds := by
  obtain ⟨⟨-, -, b, k, F, A⟩, l1, l2⟩ := S
  obtain ⟨⟨-, -, b', k', F', A'⟩, l1', l2'⟩ := S'
  have e : b = b' := Classical.byContradiction fun q => Fld.ne F F' (fun z => q (by injection z)) rfl
  subst e
  exact bv_inj l1 l1' (Arv.uniq A A' (by rw [bv_len, own_tn (by omega)]) (by rw [bv_len, own_tn (by omega)]))
theorem Str.keep {Z : State} {a0 : Array Value} {h h' : Heap} {a s : Addr} {C : String} {n : Nat} {cs : List Int32} (S : Str Z h a cs) (K : Keep h h' [s]) (q : a ≠ s) (E : Exa Z h s C) (wi : (Jvm.Cond.instantiable C n).before a0 Z = true) : Str Z h' a cs := by
  obtain ⟨⟨f1, f2, b, k, f3, f4⟩, l⟩ := S
  exact ⟨⟨f1.keep K, f2.keep K (nin1 q), b, k, f3.keep K (nin1 q), f4.keep K (nin1 (Ne.symm (Exa.neArv E f4 wi)))⟩, l⟩
/-! the constants that are loaded -/
def tb (t : String) : List Value := t.toList.map fun c => Value.int (Jvm.Lit.byteI c.toNat.toUInt16)
def CsOk (CS : List (String × Nat × String)) (Z : State) (h : Heap) (L : List (String × Nat × String × Addr)) : Prop := ∀ q ∈ L, (q.1, q.2.1, q.2.2.1) ∈ CS ∧ SC Z h q.2.2.2 (Int32.ofNat (tb q.2.2.1).length) (tb q.2.2.1)
theorem CsOk.nil {CS : List (String × Nat × String)} {Z : State} {h : Heap} : CsOk CS Z h [] := fun q hq => nomatch hq
theorem CsOk.ext {CS : List (String × Nat × String)} {Z : State} {h h' : Heap} {L : List (String × Nat × String × Addr)} (C : CsOk CS Z h L) (E : Ext h h') : CsOk CS Z h' L := fun q hq => ⟨(C q hq).1, (C q hq).2.ext E⟩
theorem CsOk.wr {CS : List (String × Nat × String)} {Z : State} {a0 : Array Value} {h h' : Heap} {L : List (String × Nat × String × Addr)} {s : Addr} {C : String} {n sl : Nat} {v : Value} (K : CsOk CS Z h L) (W : Wr h h' s sl v) (hq : ∀ q ∈ L, q.2.2.2 ≠ s) (E : Exa Z h s C) (wi : (Jvm.Cond.instantiable C n).before a0 Z = true) : CsOk CS Z h' L := fun q hm => ⟨(K q hm).1, (K q hm).2.wr W (hq q hm) E wi⟩
theorem CsOk.has {CS : List (String × Nat × String)} {Z : State} {h : Heap} {L : List (String × Nat × String × Addr)} (K : CsOk CS Z h L) {own text : String} {idx : Nat} (hu : ∀ c ∈ CS, c.2.2 = text → c = (own, idx, text)) : (∃ a, (own, idx, text, a) ∈ L) ∨ text ∉ L.map fun q => q.2.2.1 := by
  by_cases q : text ∈ L.map fun q => q.2.2.1
  · obtain ⟨x, hx, e⟩ := List.mem_map.mp q
    have := hu _ (K x hx).1 e
    obtain ⟨x1, x2, x3, x4⟩ := x
    simp only [Prod.mk.injEq] at this
    obtain ⟨rfl, rfl, rfl⟩ := this
    exact Or.inl ⟨x4, hx⟩
  · exact Or.inr q
theorem CsOk.step {CS : List (String × Nat × String)} {Z : State} {h h' : Heap} {L L' : List (String × Nat × String × Addr)} {own text : String} {idx : Nat} {a : Addr} (K : CsOk CS Z h L) (E : Ext h h') (hm : (own, idx, text) ∈ CS) (hL : L' = L ∨ L' = (own, idx, text, a) :: L) (S : SC Z h' a (Int32.ofNat (tb text).length) (tb text)) : CsOk CS Z h' L' := by
  rcases hL with rfl | rfl
  · exact K.ext E
  · intro q hq
    rcases List.mem_cons.mp hq with rfl | hq
    · exact ⟨hm, S⟩
    · exact (K.ext E) q hq

abbrev CS : List (String × Nat × String) := [("com/example/comb/comb/io/Topic", 7, "id"), ("com/example/comb/comb/io/Topic", 22, "text"), ("java/lang/String", 7, "")]
theorem wS {Z : State} {a0 : Array Value} (hw : ∀ d ∈ tables_1, d.before a0 Z = true) : ∀ a ∈ Bundle.stringAtoms, a.before a0 Z = true := fun a ha => hw a ((by decide +kernel : ∀ a ∈ Bundle.stringAtoms, a ∈ tables_1) a ha)
abbrev y13 : MethodName := ⟨"java/lang/StringUTF16", "compress", "([CI[BII)I"⟩
theorem d13_0 : decode jdk_52_method_21_code 0 = .ok (.iconst 0, 1) := by decide +kernel
theorem d13_1 : decode jdk_52_method_21_code 1 = .ok (.istore 5, 2) := by decide +kernel
theorem d13_3 : decode jdk_52_method_21_code 3 = .ok (.iload 5, 2) := by decide +kernel
theorem d13_5 : decode jdk_52_method_21_code 5 = .ok (.iload 4, 2) := by decide +kernel
theorem d13_7 : decode jdk_52_method_21_code 7 = .ok (.if_icmp .ge 37, 3) := by decide +kernel
theorem d13_10 : decode jdk_52_method_21_code 10 = .ok (.aload_n 0, 1) := by decide +kernel
theorem d13_11 : decode jdk_52_method_21_code 11 = .ok (.iload_n 1, 1) := by decide +kernel
theorem d13_12 : decode jdk_52_method_21_code 12 = .ok (.caload, 1) := by decide +kernel
theorem d13_13 : decode jdk_52_method_21_code 13 = .ok (.istore 6, 2) := by decide +kernel
theorem d13_15 : decode jdk_52_method_21_code 15 = .ok (.iload 6, 2) := by decide +kernel
theorem d13_17 : decode jdk_52_method_21_code 17 = .ok (.sipush 255, 3) := by decide +kernel
theorem d13_20 : decode jdk_52_method_21_code 20 = .ok (.if_icmp .le 6, 3) := by decide +kernel
theorem d13_23 : decode jdk_52_method_21_code 23 = .ok (.iload 5, 2) := by decide +kernel
theorem d13_25 : decode jdk_52_method_21_code 25 = .ok (.ireturn, 1) := by decide +kernel
theorem d13_26 : decode jdk_52_method_21_code 26 = .ok (.aload_n 2, 1) := by decide +kernel
theorem d13_27 : decode jdk_52_method_21_code 27 = .ok (.iload_n 3, 1) := by decide +kernel
theorem d13_28 : decode jdk_52_method_21_code 28 = .ok (.iload 6, 2) := by decide +kernel
theorem d13_30 : decode jdk_52_method_21_code 30 = .ok (.i2b, 1) := by decide +kernel
theorem d13_31 : decode jdk_52_method_21_code 31 = .ok (.bastore, 1) := by decide +kernel
theorem d13_32 : decode jdk_52_method_21_code 32 = .ok (.iinc 1 1, 3) := by decide +kernel
theorem d13_35 : decode jdk_52_method_21_code 35 = .ok (.iinc 3 1, 3) := by decide +kernel
theorem d13_38 : decode jdk_52_method_21_code 38 = .ok (.iinc 5 1, 3) := by decide +kernel
theorem d13_41 : decode jdk_52_method_21_code 41 = .ok (.goto (-38), 3) := by decide +kernel
theorem d13_44 : decode jdk_52_method_21_code 44 = .ok (.iload 4, 2) := by decide +kernel
theorem d13_46 : decode jdk_52_method_21_code 46 = .ok (.ireturn, 1) := by decide +kernel
theorem pd13 : parseMethodDescriptor "([CI[BII)I" = some ⟨[(.array .char), .int, (.array .byte), .int, .int], (some .int)⟩ := by decide +kernel
theorem pn13 : plainFor y13 = true := by first | exact plainFor_of_name (by first | (simp [plainName, overriddenIn]; done) | decide +kernel) | decide +kernel | rfl
set_option maxRecDepth 65536 in
set_option maxHeartbeats 40000000 in
theorem con_cmp2 (l : Launch) (Z : State) (a0 : Array Value) (hw : ∀ d ∈ tables_1, d.before a0 Z = true) (h0 : Heap) (n0 : Nat) (σ : Sg) (a b : Addr) (ka kb : ClassId) (cs : List Int32) (A : Arv Z h0 a ka .char (Int32.ofNat cs.length) (cs.map Value.int) (.int 0)) (B0 : Arv Z h0 b kb .byte (Int32.ofNat cs.length) (List.replicate cs.length (Value.int 0)) (.int 0)) (hp : Lat cs) (nab : a ≠ b) (gb : n0 ≤ b) :
    Con l Z y13 jdk_52_method_21_code 7 ((some .int)) ({ frames := 0, cells := 0, slots := 0, locals := 0 } : Room) [] #[(.ref a), (.int (0 : Int32)), (.ref b), (.int (0 : Int32)), (.int (Int32.ofNat cs.length))] σ h0 n0 (fun v h τ => σ = τ ∧ v = some (.int (Int32.ofNat cs.length)) ∧ Keep h0 h [b] ∧ Arv Z h b kb .byte (Int32.ofNat cs.length) (bv cs) (.int 0)) := by
  refine Con.of_go pn13 (ls := #[.val (.ref a), .val (.int (0 : Int32)), .val (.ref b), .val (.int (0 : Int32)), .val (.int (Int32.ofNat cs.length)), .unset, .unset]) (fun m => by first | (simp [entryFrame, mkF, argsToLocals, Value.category]; done) | rfl) ?_
  intro κ D
  have hl := hp.2
  have loop : ∀ (N i : Nat) (h : Heap) (s6 : Slot), cs.length - i = N → i ≤ cs.length → Keep h0 h [b] → Arv Z h b kb .byte (Int32.ofNat cs.length) ((bv cs).take i ++ List.replicate (cs.length - i) (Value.int 0)) (.int 0) → (s6 = .unset ∨ ∃ w, s6 = .val w ∧ w.category = 1) → Go κ σ h 0 0 3 #[.val (.ref a), .val (.int (Int32.ofNat i)), .val (.ref b), .val (.int (Int32.ofNat i)), .val (.int (Int32.ofNat cs.length)), .val (.int (Int32.ofNat i)), s6] [] := by
    intro N
    induction N using Nat.strongRecOn with
    | _ N ih =>
      intro i h s6 hN hi0 K B hs6
      refine Go.iload D (pc' := 5) d13_3 rfl rfl ?_
      refine Go.iload D (pc' := 7) d13_5 rfl rfl ?_
      refine Go.icmp D (pc' := 44) (pc2 := 10) d13_7 (by decide) (by decide) rfl ?_ ?_
      · intro (hc7 : ¬ (Int32.ofNat i) < (Int32.ofNat cs.length))
        refine Go.iload D (pc' := 46) d13_44 rfl rfl ?_
        refine Go.iret D rfl d13_46 (by decide) (by decide) ?_
        have hi : i = cs.length := by
          have : ¬ i < cs.length := fun q => hc7 ((own_lt (by omega) (by omega)).mpr q)
          omega
        subst hi
        refine ⟨rfl, rfl, K, ?_⟩
        rw [Nat.sub_self, List.replicate_zero, List.append_nil, List.take_of_length_le (by rw [bv_len]; exact Nat.le_refl _)] at B
        exact B
      · intro (hc7 : (Int32.ofNat i) < (Int32.ofNat cs.length))
        refine Go.aloadN D (pc' := 11) d13_10 rfl rfl rfl ?_
        refine Go.iloadN D (pc' := 12) d13_11 rfl rfl ?_
        have hi : i < cs.length := (own_lt (by omega) (by omega)).mp hc7
        refine Go.caload D (pc' := 13) d13_12 rfl (A.keep K (nin1 nab)) (own_nn (by omega)) ((own_lt (by omega) (by omega)).mpr hi) (v := .int cs[i]) (by rw [own_tn (by omega)]; exact cs_at hi _) ?_
        refine Go.istoreU D (pc' := 15) d13_13 rfl rfl hs6 (ls' := #[.val (.ref a), .val (.int (Int32.ofNat i)), .val (.ref b), .val (.int (Int32.ofNat i)), .val (.int (Int32.ofNat cs.length)), .val (.int (Int32.ofNat i)), .val (.int cs[i])]) rfl ?_
        refine Go.iload D (pc' := 17) d13_15 rfl rfl ?_
        refine Go.sipush D (pc' := 20) d13_17 rfl (v := (255 : Int32)) rfl ?_
        refine Go.icmp D (pc' := 26) (pc2 := 23) d13_20 (by decide) (by decide) rfl ?_ ?_
        · intro (hc20 : ¬ (255 : Int32) < cs[i])
          refine Go.aloadN D (pc' := 27) d13_26 rfl rfl rfl ?_
          refine Go.iloadN D (pc' := 28) d13_27 rfl rfl ?_
          refine Go.iload D (pc' := 30) d13_28 rfl rfl ?_
          refine Go.i2b D (pc' := 31) d13_30 rfl  ?_
          refine Go.bastore D (pc' := 32) (i := i) d13_31 rfl B (own_nn (by omega)) ((own_lt (by omega) (by omega)).mpr hi) (own_tn (by omega)) (by simp [bv]; omega) gb (own_bb _) ?_
          intro h2 K2 B2
          refine Go.iinc D (pc' := 35) d13_32 rfl rfl (d := (1 : Int32)) rfl (ls' := #[.val (.ref a), .val (.int ((Int32.ofNat i) + (1 : Int32))), .val (.ref b), .val (.int (Int32.ofNat i)), .val (.int (Int32.ofNat cs.length)), .val (.int (Int32.ofNat i)), .val (.int cs[i])]) rfl ?_
          refine Go.iinc D (pc' := 38) d13_35 rfl rfl (d := (1 : Int32)) rfl (ls' := #[.val (.ref a), .val (.int ((Int32.ofNat i) + (1 : Int32))), .val (.ref b), .val (.int ((Int32.ofNat i) + (1 : Int32))), .val (.int (Int32.ofNat cs.length)), .val (.int (Int32.ofNat i)), .val (.int cs[i])]) rfl ?_
          refine Go.iinc D (pc' := 41) d13_38 rfl rfl (d := (1 : Int32)) rfl (ls' := #[.val (.ref a), .val (.int ((Int32.ofNat i) + (1 : Int32))), .val (.ref b), .val (.int ((Int32.ofNat i) + (1 : Int32))), .val (.int (Int32.ofNat cs.length)), .val (.int ((Int32.ofNat i) + (1 : Int32))), .val (.int cs[i])]) rfl ?_
          refine Go.goto D (pc' := 3) d13_41 (by decide) (by decide) ?_
          rw [own_succ]
          rw [own_bset hi] at B2
          exact ih (cs.length - (i + 1)) (by omega) (i + 1) h2 _ rfl (by omega) (K.trans K2 (fun x hx => Or.inl hx)) B2 (Or.inr ⟨_, rfl, rfl⟩)
        · intro (hc20 : (255 : Int32) < cs[i])
          exact absurd hc20 (lat_le (hp.1 _ (List.getElem_mem hi)))
  refine Go.iconst D (pc' := 1) d13_0 rfl (v := (0 : Int32)) rfl ?_
  refine Go.istore D (pc' := 3) d13_1 rfl (ls' := #[.val (.ref a), .val (.int (0 : Int32)), .val (.ref b), .val (.int (0 : Int32)), .val (.int (Int32.ofNat cs.length)), .val (.int (0 : Int32)), .unset]) rfl ?_
  rw [show (0 : Int32) = Int32.ofNat 0 from rfl]
  exact loop (cs.length - 0) 0 h0 _ rfl (by omega) (Keep.refl _ _) (by simpa using B0) (Or.inl rfl)
abbrev y12 : MethodName := ⟨"java/lang/StringUTF16", "compress", "([CII)[B"⟩
theorem d12_0 : decode jdk_52_method_16_code 0 = .ok (.iload_n 2, 1) := by decide +kernel
theorem d12_1 : decode jdk_52_method_16_code 1 = .ok (.newarray .byte, 2) := by decide +kernel
theorem d12_3 : decode jdk_52_method_16_code 3 = .ok (.astore_n 3, 1) := by decide +kernel
theorem d12_4 : decode jdk_52_method_16_code 4 = .ok (.aload_n 0, 1) := by decide +kernel
theorem d12_5 : decode jdk_52_method_16_code 5 = .ok (.iload_n 1, 1) := by decide +kernel
theorem d12_6 : decode jdk_52_method_16_code 6 = .ok (.aload_n 3, 1) := by decide +kernel
theorem d12_7 : decode jdk_52_method_16_code 7 = .ok (.iconst 0, 1) := by decide +kernel
theorem d12_8 : decode jdk_52_method_16_code 8 = .ok (.iload_n 2, 1) := by decide +kernel
theorem d12_9 : decode jdk_52_method_16_code 9 = .ok (.invokestatic 115, 3) := by decide +kernel
theorem d12_12 : decode jdk_52_method_16_code 12 = .ok (.istore 4, 2) := by decide +kernel
theorem d12_14 : decode jdk_52_method_16_code 14 = .ok (.iload 4, 2) := by decide +kernel
theorem d12_16 : decode jdk_52_method_16_code 16 = .ok (.iload_n 2, 1) := by decide +kernel
theorem d12_17 : decode jdk_52_method_16_code 17 = .ok (.if_icmp .eq 40, 3) := by decide +kernel
theorem d12_57 : decode jdk_52_method_16_code 57 = .ok (.aload_n 3, 1) := by decide +kernel
theorem d12_58 : decode jdk_52_method_16_code 58 = .ok (.areturn, 1) := by decide +kernel
theorem pd12 : parseMethodDescriptor "([CII)[B" = some ⟨[(.array .char), .int, .int], (some (.array .byte))⟩ := by decide +kernel
theorem pn12 : plainFor y12 = true := by first | exact plainFor_of_name (by first | (simp [plainName, overriddenIn]; done) | decide +kernel) | decide +kernel | rfl
set_option maxRecDepth 65536 in
set_option maxHeartbeats 40000000 in
theorem con_cmp1 (l : Launch) (Z : State) (a0 : Array Value) (hw : ∀ d ∈ tables_1, d.before a0 Z = true) (h0 : Heap) (n0 : Nat) (Z0 : n0 ≤ h0.size) (σ : Sg) (a : Addr) (ka : ClassId) (cs : List Int32) (A : Arv Z h0 a ka .char (Int32.ofNat cs.length) (cs.map Value.int) (.int 0)) (hp : Lat cs) :
    Con l Z y12 jdk_52_method_16_code 6 ((some (.array .byte))) ({ frames := 1, cells := 1, slots := 64, locals := 18 } : Room) [] #[(.ref a), (.int (0 : Int32)), (.int (Int32.ofNat cs.length))] σ h0 n0 (fun v h τ => σ = τ ∧ ∃ b kb, v = some (.ref b) ∧ h0.size ≤ b ∧ Ext h0 h ∧ Arv Z h b kb .byte (Int32.ofNat cs.length) (bv cs) (.int 0)) := by
  refine Con.of_go pn12 (ls := #[.val (.ref a), .val (.int (0 : Int32)), .val (.int (Int32.ofNat cs.length)), .unset, .unset, .unset]) (fun m => by first | (simp [entryFrame, mkF, argsToLocals, Value.category]; done) | rfl) ?_
  intro κ D
  have hl := hp.2
  have qa := own_ltn A.lt
  refine Go.iloadN D (pc' := 1) d12_0 rfl rfl ?_
  refine Go.newP D (pc' := 3) (aty := .byte) (cap := 64) (ce' := 1) (sl' := 64) (hw _ (List.mem_of_getElem? (i := 25) rfl)) d12_1 rfl (own_nn (by omega)) (by rw [own_tn (by omega)]; omega) (by decide) rfl rfl (by decide) (by decide) ?_
  intro h1 b kb gb E1 B1
  refine Go.astoreN D (pc' := 4) d12_3 rfl rfl (ls' := #[.val (.ref a), .val (.int (0 : Int32)), .val (.int (Int32.ofNat cs.length)), .val (.ref b), .unset, .unset]) rfl ?_
  refine Go.aloadN D (pc' := 5) d12_4 rfl rfl rfl ?_
  refine Go.iloadN D (pc' := 6) d12_5 rfl rfl ?_
  refine Go.aloadN D (pc' := 7) d12_6 rfl rfl rfl ?_
  refine Go.iconst D (pc' := 8) d12_7 rfl (v := (0 : Int32)) rfl ?_
  refine Go.iloadN D (pc' := 9) d12_8 rfl rfl ?_
  refine Go.callS D (argsL := [(.ref a), (.int (0 : Int32)), (.ref b), (.int (0 : Int32)), (.int (Int32.ofNat cs.length))]) (rest := []) (pc' := 12) (ce' := 1) (sl' := 64) (con_cmp2 l Z a0 hw h1 n0 σ a b ka kb cs (A.ext E1) (B1.pad (vs' := List.replicate cs.length (.int 0)) (fun i => pad_rep [] (.int 0) cs.length i)) hp (own_ne (by omega)) (by omega)) (hw _ (List.mem_of_getElem? (i := 72) rfl)) (hw _ (List.mem_of_getElem? (i := 73) rfl)) (hw _ (List.mem_of_getElem? (i := 70) rfl)) (hw _ (List.mem_of_getElem? (i := 74) rfl)) (by decide) d12_9 rfl pd13 rfl rfl rfl (by decide) (W := 0) rfl (by decide) (by decide) (by decide) (by decide) (by decide) ?_
  intro v9 h2 σ9 q9
  obtain ⟨rfl, rfl, K2, B2⟩ := q9
  show Go κ σ h2 1 64 12 #[.val (.ref a), .val (.int (0 : Int32)), .val (.int (Int32.ofNat cs.length)), .val (.ref b), .unset, .unset] [(.int (Int32.ofNat cs.length))]
  refine Go.istore D (pc' := 14) d12_12 rfl (ls' := #[.val (.ref a), .val (.int (0 : Int32)), .val (.int (Int32.ofNat cs.length)), .val (.ref b), .val (.int (Int32.ofNat cs.length)), .unset]) rfl ?_
  refine Go.iload D (pc' := 16) d12_14 rfl rfl ?_
  refine Go.iloadN D (pc' := 17) d12_16 rfl rfl ?_
  refine Go.icmp D (pc' := 57) (pc2 := 20) d12_17 (by decide) (by decide) rfl ?_ ?_
  · intro (hc17 : (Int32.ofNat cs.length) = (Int32.ofNat cs.length))
    refine Go.aloadN D (pc' := 58) d12_57 rfl rfl rfl ?_
    refine Go.aret D rfl rfl rfl d12_58 (by decide) (by decide) ?_
    exact ⟨rfl, b, kb, rfl, by omega, E1.keepN K2 (by omega), B2⟩
  · intro (hc17 : ¬ (Int32.ofNat cs.length) = (Int32.ofNat cs.length))
    exact absurd rfl hc17
abbrev y14 : MethodName := ⟨"java/lang/StringUTF16", "coderFromArrayLen", "([BI)B"⟩
theorem d14_0 : decode jdk_52_method_15_code 0 = .ok (.iload_n 1, 1) := by decide +kernel
theorem d14_1 : decode jdk_52_method_15_code 1 = .ok (.aload_n 0, 1) := by decide +kernel
theorem d14_2 : decode jdk_52_method_15_code 2 = .ok (.arraylength, 1) := by decide +kernel
theorem d14_3 : decode jdk_52_method_15_code 3 = .ok (.isub, 1) := by decide +kernel
theorem d14_4 : decode jdk_52_method_15_code 4 = .ok (.bipush 31, 2) := by decide +kernel
theorem d14_6 : decode jdk_52_method_15_code 6 = .ok (.iushr, 1) := by decide +kernel
theorem d14_7 : decode jdk_52_method_15_code 7 = .ok (.i2b, 1) := by decide +kernel
theorem d14_8 : decode jdk_52_method_15_code 8 = .ok (.ireturn, 1) := by decide +kernel
theorem pd14 : parseMethodDescriptor "([BI)B" = some ⟨[(.array .byte), .int], (some .byte)⟩ := by decide +kernel
theorem pn14 : plainFor y14 = true := by first | exact plainFor_of_name (by first | (simp [plainName, overriddenIn]; done) | decide +kernel) | decide +kernel | rfl
set_option maxRecDepth 65536 in
set_option maxHeartbeats 40000000 in
theorem con_coder (l : Launch) (Z : State) (a0 : Array Value) (hw : ∀ d ∈ tables_1, d.before a0 Z = true) (h0 : Heap) (n0 : Nat) (σ : Sg) (b : Addr) (kb : ClassId) (n : Int32) (vs : List Value) (B : Arv Z h0 b kb .byte n vs (.int 0)) :
    Con l Z y14 jdk_52_method_15_code 2 ((some .byte)) ({ frames := 0, cells := 0, slots := 0, locals := 0 } : Room) [] #[(.ref b), (.int n)] σ h0 n0 (fun v h τ => h0 = h ∧ σ = τ ∧ v = some (.int 0)) := by
  refine Con.of_go pn14 (ls := #[.val (.ref b), .val (.int n)]) (fun m => by first | (simp [entryFrame, mkF, argsToLocals, Value.category]; done) | rfl) ?_
  intro κ D
  refine Go.iloadN D (pc' := 1) d14_0 rfl rfl ?_
  refine Go.aloadN D (pc' := 2) d14_1 rfl rfl rfl ?_
  refine Go.alen D (pc' := 3) d14_2 rfl B ?_
  refine Go.isub D (pc' := 4) d14_3 rfl  ?_
  refine Go.bipush D (pc' := 6) d14_4 rfl (v := (31 : Int32)) rfl ?_
  refine Go.iushr D (pc' := 7) d14_6 rfl  ?_
  refine Go.i2b D (pc' := 8) d14_7 rfl  ?_
  have e0 : ((ushr (n - n) (31 : Int32)).toInt8).toInt32 = (0 : Int32) := by rw [Int32.sub_self]; decide
  rw [e0]
  refine Go.bret D rfl rfl d14_8 (by decide) (by decide) ?_
  exact ⟨rfl, rfl, rfl⟩
abbrev y4 : MethodName := ⟨"java/lang/String", "<init>", "([CIILjava/lang/Void;)V"⟩
theorem d4_0 : decode jdk_42_method_149_code 0 = .ok (.aload_n 0, 1) := by decide +kernel
theorem d4_1 : decode jdk_42_method_149_code 1 = .ok (.invokespecial 1, 3) := by decide +kernel
theorem d4_4 : decode jdk_42_method_149_code 4 = .ok (.iload_n 3, 1) := by decide +kernel
theorem d4_5 : decode jdk_42_method_149_code 5 = .ok (.ifCond .ne 22, 3) := by decide +kernel
theorem d4_8 : decode jdk_42_method_149_code 8 = .ok (.aload_n 0, 1) := by decide +kernel
theorem d4_9 : decode jdk_42_method_149_code 9 = .ok (.ldc 7, 2) := by decide +kernel
theorem d4_11 : decode jdk_42_method_149_code 11 = .ok (.getfield 9, 3) := by decide +kernel
theorem d4_14 : decode jdk_42_method_149_code 14 = .ok (.putfield 9, 3) := by decide +kernel
theorem d4_17 : decode jdk_42_method_149_code 17 = .ok (.aload_n 0, 1) := by decide +kernel
theorem d4_18 : decode jdk_42_method_149_code 18 = .ok (.ldc 7, 2) := by decide +kernel
theorem d4_20 : decode jdk_42_method_149_code 20 = .ok (.getfield 15, 3) := by decide +kernel
theorem d4_23 : decode jdk_42_method_149_code 23 = .ok (.putfield 15, 3) := by decide +kernel
theorem d4_26 : decode jdk_42_method_149_code 26 = .ok (.return_, 1) := by decide +kernel
theorem d4_27 : decode jdk_42_method_149_code 27 = .ok (.getstatic 38, 3) := by decide +kernel
theorem d4_30 : decode jdk_42_method_149_code 30 = .ok (.ifCond .eq 28, 3) := by decide +kernel
theorem d4_33 : decode jdk_42_method_149_code 33 = .ok (.aload_n 1, 1) := by decide +kernel
theorem d4_34 : decode jdk_42_method_149_code 34 = .ok (.iload_n 2, 1) := by decide +kernel
theorem d4_35 : decode jdk_42_method_149_code 35 = .ok (.iload_n 3, 1) := by decide +kernel
theorem d4_36 : decode jdk_42_method_149_code 36 = .ok (.invokestatic 177, 3) := by decide +kernel
theorem d4_39 : decode jdk_42_method_149_code 39 = .ok (.astore 5, 2) := by decide +kernel
theorem d4_41 : decode jdk_42_method_149_code 41 = .ok (.aload_n 0, 1) := by decide +kernel
theorem d4_42 : decode jdk_42_method_149_code 42 = .ok (.aload 5, 2) := by decide +kernel
theorem d4_44 : decode jdk_42_method_149_code 44 = .ok (.iload_n 3, 1) := by decide +kernel
theorem d4_45 : decode jdk_42_method_149_code 45 = .ok (.invokestatic 47, 3) := by decide +kernel
theorem d4_48 : decode jdk_42_method_149_code 48 = .ok (.putfield 15, 3) := by decide +kernel
theorem d4_51 : decode jdk_42_method_149_code 51 = .ok (.aload_n 0, 1) := by decide +kernel
theorem d4_52 : decode jdk_42_method_149_code 52 = .ok (.aload 5, 2) := by decide +kernel
theorem d4_54 : decode jdk_42_method_149_code 54 = .ok (.putfield 9, 3) := by decide +kernel
theorem d4_57 : decode jdk_42_method_149_code 57 = .ok (.return_, 1) := by decide +kernel
theorem pd4 : parseMethodDescriptor "([CIILjava/lang/Void;)V" = some ⟨[(.array .char), .int, .int, (.object "java/lang/Void")], none⟩ := by decide +kernel
theorem pn4 : plainFor y4 = true := by first | exact plainFor_of_name (by first | (simp [plainName, overriddenIn]; done) | decide +kernel) | decide +kernel | rfl
set_option maxRecDepth 65536 in
set_option maxHeartbeats 40000000 in
theorem con_strE4 (l : Launch) (Z : State) (a0 : Array Value) (hw : ∀ d ∈ tables_1, d.before a0 Z = true) (h0 : Heap) (n0 : Nat) (s a : Addr) (g0 : n0 ≤ s) (E : Exa Z h0 s "java/lang/String") (Fv : Fld Z h0 s "java/lang/String" "value" "[B" .null) (Fc : Fld Z h0 s "java/lang/String" "coder" "B" (.int 0)) (hh : Jvm.Lit.constHeld Z "java/lang/String" 7) (hcw : Jvm.Lit.compactW.before a0 Z = true) (L : List (String × Nat × String × Addr)) (K0 : CsOk CS Z h0 L) :
    Con l Z y4 jdk_42_method_149_code 6 none ({ frames := 1, cells := 4, slots := 8, locals := 14 } : Room) [] #[(.ref s), (.ref a), (.int (0 : Int32)), (.int (0 : Int32)), (.null)] (some L) h0 n0 (fun v h τ => v = none ∧ Keep h0 h [s] ∧ Str Z h s [] ∧ ∃ L', τ = some L' ∧ CsOk CS Z h L') := by
  refine Con.of_go pn4 (ls := #[.val (.ref s), .val (.ref a), .val (.int (0 : Int32)), .val (.int (0 : Int32)), .val (.null), .unset]) (fun m => by first | (simp [entryFrame, mkF, argsToLocals, Value.category]; done) | rfl) ?_
  intro κ D
  have hns : ∀ (h : Heap) (LL : List (String × Nat × String × Addr)), Fld Z h s "java/lang/String" "value" "[B" .null → CsOk CS Z h LL → ∀ q ∈ LL, q.2.2.2 ≠ s := fun h LL F K q hq => by
    obtain ⟨-, -, -, b, k, F2, -⟩ := K q hq
    exact Fld.ne F2 F (fun z => nomatch z)
  refine Go.aloadN D (pc' := 1) d4_0 rfl rfl rfl ?_
  refine Go.initO D (pc' := 4) (hw _ (List.mem_of_getElem? (i := 21) rfl)) (hw _ (List.mem_of_getElem? (i := 22) rfl)) (hw _ (List.mem_of_getElem? (i := 23) rfl)) d4_1 rfl rfl (by decide) (W := 0) rfl (by decide) ?_
  refine Go.iloadN D (pc' := 5) d4_4 rfl rfl ?_
  refine Go.ifc D (pc' := 27) (pc2 := 8) d4_5 (by decide) (by decide) rfl (fun (hc : ¬ (0 : Int32) = 0) => absurd hc (by decide)) (fun _ => ?_)
  refine Go.aloadN D (pc' := 9) d4_8 rfl rfl rfl ?_
  refine Go.ldcT D (pc' := 11) (n := 0) (ce' := 2) (sl' := 4) (vs := tb "") (z := Int32.ofNat (tb "").length) (hw _ (List.mem_of_getElem? (i := 24) rfl)) (wS hw) hh hcw ⟨by decide, rfl⟩ (by decide) (by decide) (K0.has (by decide)) (fun a ha => (K0 _ ha).2) d4_9 rfl (by decide) (by decide) rfl rfl (by decide) (by decide) ?_
  intro h1 c1 L1 E1 m1 l1 S1
  have K1 := K0.step E1 (by decide) l1 S1
  have n1 := hns h1 L1 (Fv.ext E1) K1
  obtain ⟨x1, x2, b, kb, x3, x4⟩ := id S1
  refine Go.getF D (pc' := 14) (hw _ (List.mem_of_getElem? (i := 30) rfl)) d4_11 rfl x3 ?_
  refine Go.putF D (pc' := 17) (hw _ (List.mem_of_getElem? (i := 30) rfl)) d4_14 rfl (Fv.ext E1) (E.ext E1) (Or.inr ⟨(hw _ (List.mem_of_getElem? (i := 26) rfl)), rfl, rfl⟩) (hw _ (List.mem_of_getElem? (i := 11) rfl)) (ty := (.array .byte)) (by decide) rfl rfl g0 ?_
  intro h2 W2
  have K2 := K1.wr W2 n1 (E.ext E1) (hw _ (List.mem_of_getElem? (i := 11) rfl))
  refine Go.aloadN D (pc' := 18) d4_17 rfl rfl rfl ?_
  refine Go.ldcA D (pc' := 20) (hw _ (List.mem_of_getElem? (i := 24) rfl)) m1 d4_18 rfl ?_
  have S2 := S1.wr W2 (n1 _ m1) (E.ext E1) (hw _ (List.mem_of_getElem? (i := 11) rfl))
  refine Go.getF D (pc' := 23) (hw _ (List.mem_of_getElem? (i := 31) rfl)) d4_20 rfl S2.2.1 ?_
  refine Go.putF D (pc' := 26) (hw _ (List.mem_of_getElem? (i := 31) rfl)) d4_23 rfl ((Fc.ext E1).other W2 (Or.inr (slot_ne (Or.inr (hw _ (List.mem_of_getElem? (i := 27) rfl))) (Or.inr (hw _ (List.mem_of_getElem? (i := 26) rfl))) (by decide) (t := .byte) (t' := .array .byte) (by decide) (by decide)))) ((E.ext E1).wr W2) (Or.inr ⟨(hw _ (List.mem_of_getElem? (i := 27) rfl)), rfl, rfl⟩) (hw _ (List.mem_of_getElem? (i := 11) rfl)) (ty := .byte) (by decide) rfl rfl g0 ?_
  intro h4 W4
  refine Go.vret D rfl d4_26 (by decide) (by decide) ?_
  have E3' := (E.ext E1).wr W2
  have V3 := (Fv.ext E1).same W2
  have nb : b ≠ s := Ne.symm (Exa.neArv (E.ext E1) x4 (hw _ (List.mem_of_getElem? (i := 11) rfl)))
  refine ⟨rfl, ?_, ⟨⟨E3'.wr W4, ((Fc.ext E1).other W2 (Or.inr (slot_ne (Or.inr (hw _ (List.mem_of_getElem? (i := 27) rfl))) (Or.inr (hw _ (List.mem_of_getElem? (i := 26) rfl))) (by decide) (t := .byte) (t' := .array .byte) (by decide) (by decide)))).same W4, b, kb, V3.other W4 (Or.inr (slot_ne (Or.inr (hw _ (List.mem_of_getElem? (i := 26) rfl))) (Or.inr (hw _ (List.mem_of_getElem? (i := 27) rfl))) (by decide) (t := .array .byte) (t' := .byte) (by decide) (by decide))), (x4.other W2 nb).other W4 nb⟩, by simp [Lat]⟩, L1, rfl, K2.wr W4 n1 E3' (hw _ (List.mem_of_getElem? (i := 11) rfl))⟩
  exact (((Keep.refl _ _).ext E1).wr W2 (Or.inl (by simp))).wr W4 (Or.inl (by simp))
set_option maxRecDepth 65536 in
set_option maxHeartbeats 40000000 in
theorem con_strN4 (l : Launch) (Z : State) (a0 : Array Value) (hw : ∀ d ∈ tables_1, d.before a0 Z = true) (h0 : Heap) (n0 : Nat) (Z0 : n0 ≤ h0.size) (σ : Sg) (s : Addr) (a : Addr) (ka : ClassId) (cs : List Int32) (A : Arv Z h0 a ka .char (Int32.ofNat cs.length) (cs.map Value.int) (.int 0)) (hp : Lat cs) (hne : cs ≠ []) (cz : Int32) (hcz : ¬ cz = 0) (O2 : Sta Z Z.heap "java/lang/String" "COMPACT_STRINGS" "Z" (.int cz)) (g0 : n0 ≤ s) (E : Exa Z h0 s "java/lang/String") (Fv : Fld Z h0 s "java/lang/String" "value" "[B" .null) (Fc : Fld Z h0 s "java/lang/String" "coder" "B" (.int 0)) :
    Con l Z y4 jdk_42_method_149_code 6 none ({ frames := 2, cells := 1, slots := 64, locals := 48 } : Room) [] #[(.ref s), (.ref a), (.int (0 : Int32)), (.int (Int32.ofNat cs.length)), (.null)] σ h0 n0 (fun v h τ => σ = τ ∧ v = none ∧ Keep h0 h [s] ∧ Str Z h s cs) := by
  refine Con.of_go pn4 (ls := #[.val (.ref s), .val (.ref a), .val (.int (0 : Int32)), .val (.int (Int32.ofNat cs.length)), .val (.null), .unset]) (fun m => by first | (simp [entryFrame, mkF, argsToLocals, Value.category]; done) | rfl) ?_
  intro κ D
  have hl := hp.2
  have qs := own_ltn E.lt
  have hpos : 0 < cs.length := List.length_pos_iff.mpr hne
  refine Go.aloadN D (pc' := 1) d4_0 rfl rfl rfl ?_
  refine Go.initO D (pc' := 4) (hw _ (List.mem_of_getElem? (i := 21) rfl)) (hw _ (List.mem_of_getElem? (i := 22) rfl)) (hw _ (List.mem_of_getElem? (i := 23) rfl)) d4_1 rfl rfl (by decide) (W := 0) rfl (by decide) ?_
  refine Go.iloadN D (pc' := 5) d4_4 rfl rfl ?_
  refine Go.ifc D (pc' := 27) (pc2 := 8) d4_5 (by decide) (by decide) rfl ?_ ?_
  · intro (hc5 : ¬ (Int32.ofNat cs.length) = 0)
    refine Go.getS D (pc' := 30) (hw _ (List.mem_of_getElem? (i := 63) rfl)) d4_27 rfl O2 ?_
    refine Go.ifc D (pc' := 58) (pc2 := 33) d4_30 (by decide) (by decide) rfl ?_ ?_
    · intro (hc30 : cz = 0)
      exact absurd hc30 hcz
    · intro (hc30 : ¬ cz = 0)
      refine Go.aloadN D (pc' := 34) d4_33 rfl rfl rfl ?_
      refine Go.iloadN D (pc' := 35) d4_34 rfl rfl ?_
      refine Go.iloadN D (pc' := 36) d4_35 rfl rfl ?_
      refine Go.callS D (argsL := [(.ref a), (.int (0 : Int32)), (.int (Int32.ofNat cs.length))]) (rest := []) (pc' := 39) (ce' := 1) (sl' := 64) (con_cmp1 l Z a0 hw h0 n0 Z0 σ a ka cs A hp) (hw _ (List.mem_of_getElem? (i := 68) rfl)) (hw _ (List.mem_of_getElem? (i := 69) rfl)) (hw _ (List.mem_of_getElem? (i := 70) rfl)) (hw _ (List.mem_of_getElem? (i := 71) rfl)) (by decide) d4_36 rfl pd12 rfl rfl rfl (by decide) (W := 0) rfl (by decide) (by decide) (by decide) (by decide) (by decide) ?_
      intro v36 h1 σ36 q36
      obtain ⟨rfl, b, kb, rfl, gb, E1, B1⟩ := q36
      show Go κ σ h1 1 64 39 #[.val (.ref s), .val (.ref a), .val (.int (0 : Int32)), .val (.int (Int32.ofNat cs.length)), .val (.null), .unset] [(.ref b)]
      refine Go.astore D (pc' := 41) d4_39 rfl rfl (ls' := #[.val (.ref s), .val (.ref a), .val (.int (0 : Int32)), .val (.int (Int32.ofNat cs.length)), .val (.null), .val (.ref b)]) rfl ?_
      refine Go.aloadN D (pc' := 42) d4_41 rfl rfl rfl ?_
      refine Go.aload D (pc' := 44) d4_42 rfl rfl rfl ?_
      refine Go.iloadN D (pc' := 45) d4_44 rfl rfl ?_
      refine Go.callS D (argsL := [(.ref b), (.int (Int32.ofNat cs.length))]) (rest := [(.ref s)]) (pc' := 48) (ce' := 1) (sl' := 64) (con_coder l Z a0 hw h1 n0 σ b kb _ _ B1) (hw _ (List.mem_of_getElem? (i := 75) rfl)) (hw _ (List.mem_of_getElem? (i := 76) rfl)) (hw _ (List.mem_of_getElem? (i := 70) rfl)) (hw _ (List.mem_of_getElem? (i := 77) rfl)) (by decide) d4_45 rfl pd14 rfl rfl rfl (by decide) (W := 1) rfl (by decide) (by decide) (by decide) (by decide) (by decide) ?_
      intro v45 h2 σ45 q45
      obtain ⟨rfl, rfl, rfl⟩ := q45
      show Go κ σ h1 1 64 48 #[.val (.ref s), .val (.ref a), .val (.int (0 : Int32)), .val (.int (Int32.ofNat cs.length)), .val (.null), .val (.ref b)] [(.int (0 : Int32)), (.ref s)]
      refine Go.putF D (pc' := 51) (hw _ (List.mem_of_getElem? (i := 31) rfl)) d4_48 rfl (Fc.ext E1) (E.ext E1) (Or.inr ⟨(hw _ (List.mem_of_getElem? (i := 27) rfl)), rfl, rfl⟩) (hw _ (List.mem_of_getElem? (i := 11) rfl)) (ty := .byte) (by decide) rfl rfl g0 ?_
      intro h3 W3
      refine Go.aloadN D (pc' := 52) d4_51 rfl rfl rfl ?_
      refine Go.aload D (pc' := 54) d4_52 rfl rfl rfl ?_
      refine Go.putF D (pc' := 57) (hw _ (List.mem_of_getElem? (i := 30) rfl)) d4_54 rfl ((Fv.ext E1).other W3 (Or.inr (slot_ne (Or.inr (hw _ (List.mem_of_getElem? (i := 26) rfl))) (Or.inr (hw _ (List.mem_of_getElem? (i := 27) rfl))) (by decide) (t := .array .byte) (t' := .byte) (by decide) (by decide)))) ((E.ext E1).wr W3) (Or.inr ⟨(hw _ (List.mem_of_getElem? (i := 26) rfl)), rfl, rfl⟩) (hw _ (List.mem_of_getElem? (i := 11) rfl)) (ty := (.array .byte)) (by decide) rfl rfl g0 ?_
      intro h4 W4
      refine Go.vret D rfl d4_57 (by decide) (by decide) ?_
      have nb : b ≠ s := own_ne (by omega)
      refine ⟨rfl, rfl, ?_, ⟨((E.ext E1).wr W3).wr W4, ((Fc.ext E1).same W3).other W4 (Or.inr (slot_ne (Or.inr (hw _ (List.mem_of_getElem? (i := 27) rfl))) (Or.inr (hw _ (List.mem_of_getElem? (i := 26) rfl))) (by decide) (t := .byte) (t' := .array .byte) (by decide) (by decide))), b, kb, ((Fv.ext E1).other W3 (Or.inr (slot_ne (Or.inr (hw _ (List.mem_of_getElem? (i := 26) rfl))) (Or.inr (hw _ (List.mem_of_getElem? (i := 27) rfl))) (by decide) (t := .array .byte) (t' := .byte) (by decide) (by decide)))).same W4, (B1.other W3 nb).other W4 nb⟩, hp⟩
      exact (((Keep.refl _ _).ext E1).wr W3 (Or.inl (by simp))).wr W4 (Or.inl (by simp))
  · intro (hc5 : (Int32.ofNat cs.length) = 0)
    exact absurd (own_inj (j := 0) (by omega) (by omega) hc5) (by omega)
abbrev y3 : MethodName := ⟨"java/lang/String", "<init>", "([C)V"⟩
theorem d3_0 : decode jdk_42_method_3_code 0 = .ok (.aload_n 0, 1) := by decide +kernel
theorem d3_1 : decode jdk_42_method_3_code 1 = .ok (.aload_n 1, 1) := by decide +kernel
theorem d3_2 : decode jdk_42_method_3_code 2 = .ok (.iconst 0, 1) := by decide +kernel
theorem d3_3 : decode jdk_42_method_3_code 3 = .ok (.aload_n 1, 1) := by decide +kernel
theorem d3_4 : decode jdk_42_method_3_code 4 = .ok (.arraylength, 1) := by decide +kernel
theorem d3_5 : decode jdk_42_method_3_code 5 = .ok (.aconst_null, 1) := by decide +kernel
theorem d3_6 : decode jdk_42_method_3_code 6 = .ok (.invokespecial 27, 3) := by decide +kernel
theorem d3_9 : decode jdk_42_method_3_code 9 = .ok (.return_, 1) := by decide +kernel
theorem pd3 : parseMethodDescriptor "([C)V" = some ⟨[(.array .char)], none⟩ := by decide +kernel
theorem pn3 : plainFor y3 = true := by first | exact plainFor_of_name (by first | (simp [plainName, overriddenIn]; done) | decide +kernel) | decide +kernel | rfl
set_option maxRecDepth 65536 in
set_option maxHeartbeats 40000000 in
theorem con_strE (l : Launch) (Z : State) (a0 : Array Value) (hw : ∀ d ∈ tables_1, d.before a0 Z = true) (h0 : Heap) (n0 : Nat) (s a : Addr) (ka : ClassId) (vs : List Value) (A : Arv Z h0 a ka .char 0 vs (.int 0)) (g0 : n0 ≤ s) (E : Exa Z h0 s "java/lang/String") (Fv : Fld Z h0 s "java/lang/String" "value" "[B" .null) (Fc : Fld Z h0 s "java/lang/String" "coder" "B" (.int 0)) (hh : Jvm.Lit.constHeld Z "java/lang/String" 7) (hcw : Jvm.Lit.compactW.before a0 Z = true) (L : List (String × Nat × String × Addr)) (K0 : CsOk CS Z h0 L) :
    Con l Z y3 jdk_42_method_3_code 2 none ({ frames := 2, cells := 4, slots := 8, locals := 40 } : Room) [] #[(.ref s), (.ref a)] (some L) h0 n0 (fun v h τ => v = none ∧ Keep h0 h [s] ∧ Str Z h s [] ∧ ∃ L', τ = some L' ∧ CsOk CS Z h L') := by
  refine Con.of_go pn3 (ls := #[.val (.ref s), .val (.ref a)]) (fun m => by first | (simp [entryFrame, mkF, argsToLocals, Value.category]; done) | rfl) ?_
  intro κ D
  refine Go.aloadN D (pc' := 1) d3_0 rfl rfl rfl ?_
  refine Go.aloadN D (pc' := 2) d3_1 rfl rfl rfl ?_
  refine Go.iconst D (pc' := 3) d3_2 rfl (v := (0 : Int32)) rfl ?_
  refine Go.aloadN D (pc' := 4) d3_3 rfl rfl rfl ?_
  refine Go.alen D (pc' := 5) d3_4 rfl A ?_
  refine Go.aconstNull D (pc' := 6) d3_5 rfl  ?_
  refine Go.callI D (argsL := [(.ref a), (.int (0 : Int32)), (.int (0 : Int32)), (.null)]) (rest := []) (pc' := 9) (ce' := 4) (sl' := 8) (con_strE4 l Z a0 hw h0 n0 s a g0 E Fv Fc hh hcw L K0) rfl (hw _ (List.mem_of_getElem? (i := 17) rfl)) (hw _ (List.mem_of_getElem? (i := 18) rfl)) (hw _ (List.mem_of_getElem? (i := 12) rfl)) (hw _ (List.mem_of_getElem? (i := 20) rfl)) (by decide) d3_6 rfl pd4 rfl rfl rfl (by decide) (W := 0) rfl (by decide) (by decide) (by decide) (by decide) (by decide) ?_
  intro v6 h1 σ6 q6
  obtain ⟨rfl, q1, q2, L1, rfl, K1⟩ := q6
  show Go κ (some L1) h1 4 8 9 #[.val (.ref s), .val (.ref a)] []
  refine Go.vret D rfl d3_9 (by decide) (by decide) ?_
  exact ⟨rfl, q1, q2, L1, rfl, K1⟩
set_option maxRecDepth 65536 in
set_option maxHeartbeats 40000000 in
theorem con_strN (l : Launch) (Z : State) (a0 : Array Value) (hw : ∀ d ∈ tables_1, d.before a0 Z = true) (h0 : Heap) (n0 : Nat) (Z0 : n0 ≤ h0.size) (σ : Sg) (s : Addr) (a : Addr) (ka : ClassId) (cs : List Int32) (A : Arv Z h0 a ka .char (Int32.ofNat cs.length) (cs.map Value.int) (.int 0)) (hp : Lat cs) (hne : cs ≠ []) (cz : Int32) (hcz : ¬ cz = 0) (O2 : Sta Z Z.heap "java/lang/String" "COMPACT_STRINGS" "Z" (.int cz)) (g0 : n0 ≤ s) (E : Exa Z h0 s "java/lang/String") (Fv : Fld Z h0 s "java/lang/String" "value" "[B" .null) (Fc : Fld Z h0 s "java/lang/String" "coder" "B" (.int 0)) :
    Con l Z y3 jdk_42_method_3_code 2 none ({ frames := 3, cells := 1, slots := 64, locals := 68 } : Room) [] #[(.ref s), (.ref a)] σ h0 n0 (fun v h τ => σ = τ ∧ v = none ∧ Keep h0 h [s] ∧ Str Z h s cs) := by
  refine Con.of_go pn3 (ls := #[.val (.ref s), .val (.ref a)]) (fun m => by first | (simp [entryFrame, mkF, argsToLocals, Value.category]; done) | rfl) ?_
  intro κ D
  refine Go.aloadN D (pc' := 1) d3_0 rfl rfl rfl ?_
  refine Go.aloadN D (pc' := 2) d3_1 rfl rfl rfl ?_
  refine Go.iconst D (pc' := 3) d3_2 rfl (v := (0 : Int32)) rfl ?_
  refine Go.aloadN D (pc' := 4) d3_3 rfl rfl rfl ?_
  refine Go.alen D (pc' := 5) d3_4 rfl A ?_
  refine Go.aconstNull D (pc' := 6) d3_5 rfl  ?_
  refine Go.callI D (argsL := [(.ref a), (.int (0 : Int32)), (.int (Int32.ofNat cs.length)), (.null)]) (rest := []) (pc' := 9) (ce' := 1) (sl' := 64) (con_strN4 l Z a0 hw h0 n0 Z0 σ s a ka cs A hp hne cz hcz O2 g0 E Fv Fc) rfl (hw _ (List.mem_of_getElem? (i := 17) rfl)) (hw _ (List.mem_of_getElem? (i := 18) rfl)) (hw _ (List.mem_of_getElem? (i := 12) rfl)) (hw _ (List.mem_of_getElem? (i := 20) rfl)) (by decide) d3_6 rfl pd4 rfl rfl rfl (by decide) (W := 0) rfl (by decide) (by decide) (by decide) (by decide) (by decide) ?_
  intro v6 h1 σ6 q6
  obtain ⟨rfl, rfl, q1, q2⟩ := q6
  show Go κ σ h1 1 64 9 #[.val (.ref s), .val (.ref a)] []
  refine Go.vret D rfl d3_9 (by decide) (by decide) ?_
  exact ⟨rfl, rfl, q1, q2⟩
abbrev y11 : MethodName := ⟨"java/lang/StringLatin1", "equals", "([B[B)Z"⟩
theorem d11_0 : decode jdk_43_method_13_code 0 = .ok (.aload_n 0, 1) := by decide +kernel
theorem d11_1 : decode jdk_43_method_13_code 1 = .ok (.arraylength, 1) := by decide +kernel
theorem d11_2 : decode jdk_43_method_13_code 2 = .ok (.aload_n 1, 1) := by decide +kernel
theorem d11_3 : decode jdk_43_method_13_code 3 = .ok (.arraylength, 1) := by decide +kernel
theorem d11_4 : decode jdk_43_method_13_code 4 = .ok (.if_icmp .ne 30, 3) := by decide +kernel
theorem d11_7 : decode jdk_43_method_13_code 7 = .ok (.iconst 0, 1) := by decide +kernel
theorem d11_8 : decode jdk_43_method_13_code 8 = .ok (.istore_n 2, 1) := by decide +kernel
theorem d11_9 : decode jdk_43_method_13_code 9 = .ok (.iload_n 2, 1) := by decide +kernel
theorem d11_10 : decode jdk_43_method_13_code 10 = .ok (.aload_n 0, 1) := by decide +kernel
theorem d11_11 : decode jdk_43_method_13_code 11 = .ok (.arraylength, 1) := by decide +kernel
theorem d11_12 : decode jdk_43_method_13_code 12 = .ok (.if_icmp .ge 20, 3) := by decide +kernel
theorem d11_15 : decode jdk_43_method_13_code 15 = .ok (.aload_n 0, 1) := by decide +kernel
theorem d11_16 : decode jdk_43_method_13_code 16 = .ok (.iload_n 2, 1) := by decide +kernel
theorem d11_17 : decode jdk_43_method_13_code 17 = .ok (.baload, 1) := by decide +kernel
theorem d11_18 : decode jdk_43_method_13_code 18 = .ok (.aload_n 1, 1) := by decide +kernel
theorem d11_19 : decode jdk_43_method_13_code 19 = .ok (.iload_n 2, 1) := by decide +kernel
theorem d11_20 : decode jdk_43_method_13_code 20 = .ok (.baload, 1) := by decide +kernel
theorem d11_21 : decode jdk_43_method_13_code 21 = .ok (.if_icmp .eq 5, 3) := by decide +kernel
theorem d11_24 : decode jdk_43_method_13_code 24 = .ok (.iconst 0, 1) := by decide +kernel
theorem d11_25 : decode jdk_43_method_13_code 25 = .ok (.ireturn, 1) := by decide +kernel
theorem d11_26 : decode jdk_43_method_13_code 26 = .ok (.iinc 2 1, 3) := by decide +kernel
theorem d11_29 : decode jdk_43_method_13_code 29 = .ok (.goto (-20), 3) := by decide +kernel
theorem d11_32 : decode jdk_43_method_13_code 32 = .ok (.iconst 1, 1) := by decide +kernel
theorem d11_33 : decode jdk_43_method_13_code 33 = .ok (.ireturn, 1) := by decide +kernel
theorem d11_34 : decode jdk_43_method_13_code 34 = .ok (.iconst 0, 1) := by decide +kernel
theorem d11_35 : decode jdk_43_method_13_code 35 = .ok (.ireturn, 1) := by decide +kernel
theorem pd11 : parseMethodDescriptor "([B[B)Z" = some ⟨[(.array .byte), (.array .byte)], (some .boolean)⟩ := by decide +kernel
theorem pn11 : plainFor y11 = true := by first | exact plainFor_of_name (by first | (simp [plainName, overriddenIn]; done) | decide +kernel) | decide +kernel | rfl
set_option maxRecDepth 65536 in
set_option maxHeartbeats 40000000 in
theorem con_leq (l : Launch) (Z : State) (a0 : Array Value) (hw : ∀ d ∈ tables_1, d.before a0 Z = true) (h0 : Heap) (n0 : Nat) (σ : Sg) (b d : Addr) (kb kd : ClassId) (cs ds : List Int32) (B : Arv Z h0 b kb .byte (Int32.ofNat cs.length) (bv cs) (.int 0)) (D0 : Arv Z h0 d kd .byte (Int32.ofNat ds.length) (bv ds) (.int 0)) (hp : Lat cs) (hq : Lat ds) :
    Con l Z y11 jdk_43_method_13_code 3 ((some .boolean)) ({ frames := 0, cells := 0, slots := 0, locals := 0 } : Room) [] #[(.ref b), (.ref d)] σ h0 n0 (fun v h τ => h0 = h ∧ σ = τ ∧ ∃ r, v = some (.int r) ∧ ((r = 1 ∧ cs = ds) ∨ (r = 0 ∧ ¬ cs = ds))) := by
  refine Con.of_go pn11 (ls := #[.val (.ref b), .val (.ref d), .unset]) (fun m => by first | (simp [entryFrame, mkF, argsToLocals, Value.category]; done) | rfl) ?_
  intro κ D
  have hl := hp.2
  have hl2 := hq.2
  refine Go.aloadN D (pc' := 1) d11_0 rfl rfl rfl ?_
  refine Go.alen D (pc' := 2) d11_1 rfl B ?_
  refine Go.aloadN D (pc' := 3) d11_2 rfl rfl rfl ?_
  refine Go.alen D (pc' := 4) d11_3 rfl D0 ?_
  refine Go.icmp D (pc' := 34) (pc2 := 7) d11_4 (by decide) (by decide) rfl ?_ ?_
  · intro (hc4 : ¬ (Int32.ofNat cs.length) = (Int32.ofNat ds.length))
    refine Go.iconst D (pc' := 35) d11_34 rfl (v := (0 : Int32)) rfl ?_
    refine Go.zret D rfl rfl d11_35 (by decide) (by decide) ?_
    exact ⟨rfl, rfl, _, rfl, Or.inr ⟨rfl, fun z => hc4 (by rw [z])⟩⟩
  · intro (hc4 : (Int32.ofNat cs.length) = (Int32.ofNat ds.length))
    have hel : cs.length = ds.length := own_inj (by omega) (by omega) hc4
    have loop : ∀ (N i : Nat), cs.length - i = N → i ≤ cs.length → (∀ j, j < i → cs[j]? = ds[j]?) → Go κ σ h0 0 0 9 #[.val (.ref b), .val (.ref d), .val (.int (Int32.ofNat i))] [] := by
      intro N
      induction N using Nat.strongRecOn with
      | _ N ih =>
        intro i hN hi0 hsame
        refine Go.iloadN D (pc' := 10) d11_9 rfl rfl ?_
        refine Go.aloadN D (pc' := 11) d11_10 rfl rfl rfl ?_
        refine Go.alen D (pc' := 12) d11_11 rfl B ?_
        refine Go.icmp D (pc' := 32) (pc2 := 15) d11_12 (by decide) (by decide) rfl ?_ ?_
        · intro (hc12 : ¬ (Int32.ofNat i) < (Int32.ofNat cs.length))
          refine Go.iconst D (pc' := 33) d11_32 rfl (v := (1 : Int32)) rfl ?_
          refine Go.zret D rfl rfl d11_33 (by decide) (by decide) ?_
          refine ⟨rfl, rfl, _, rfl, Or.inl ⟨rfl, ?_⟩⟩
          have hi : i = cs.length := by
            have : ¬ i < cs.length := fun q => hc12 ((own_lt (by omega) (by omega)).mpr q)
            omega
          apply List.ext_getElem? fun j => ?_
          by_cases q : j < cs.length
          · exact hsame j (by omega)
          · rw [List.getElem?_eq_none (by omega), List.getElem?_eq_none (by omega)]
        · intro (hc12 : (Int32.ofNat i) < (Int32.ofNat cs.length))
          have hi : i < cs.length := (own_lt (by omega) (by omega)).mp hc12
          refine Go.aloadN D (pc' := 16) d11_15 rfl rfl rfl ?_
          refine Go.iloadN D (pc' := 17) d11_16 rfl rfl ?_
          refine Go.baload D (pc' := 18) d11_17 rfl B (own_nn (by omega)) hc12 (v := .int cs[i].toInt8.toInt32) (by rw [own_tn (by omega)]; exact bv_at hi _) ?_
          refine Go.aloadN D (pc' := 19) d11_18 rfl rfl rfl ?_
          refine Go.iloadN D (pc' := 20) d11_19 rfl rfl ?_
          refine Go.baload D (pc' := 21) d11_20 rfl D0 (own_nn (by omega)) ((own_lt (by omega) (by omega)).mpr (by omega)) (v := .int (ds[i]'(hel ▸ hi)).toInt8.toInt32) (by rw [own_tn (by omega)]; exact bv_at (hel ▸ hi) _) ?_
          refine Go.icmp D (pc' := 26) (pc2 := 24) d11_21 (by decide) (by decide) rfl ?_ ?_
          · intro (hc21 : cs[i].toInt8.toInt32 = (ds[i]'(hel ▸ hi)).toInt8.toInt32)
            refine Go.iinc D (pc' := 29) d11_26 rfl rfl (d := (1 : Int32)) rfl (ls' := #[.val (.ref b), .val (.ref d), .val (.int ((Int32.ofNat i) + (1 : Int32)))]) rfl ?_
            refine Go.goto D (pc' := 9) d11_29 (by decide) (by decide) ?_
            rw [own_succ]
            exact ih (cs.length - (i + 1)) (by omega) (i + 1) rfl (by omega) (fun j hj => (Nat.lt_or_eq_of_le (Nat.le_of_lt_succ hj)).elim (fun z => hsame j z) (fun z => by subst z; rw [List.getElem?_eq_getElem hi, List.getElem?_eq_getElem (hel ▸ hi), byte_inj (hp.1 _ (List.getElem_mem hi)) (hq.1 _ (List.getElem_mem (hel ▸ hi))) hc21]))
          · intro (hc21 : ¬ cs[i].toInt8.toInt32 = (ds[i]'(hel ▸ hi)).toInt8.toInt32)
            refine Go.iconst D (pc' := 25) d11_24 rfl (v := (0 : Int32)) rfl ?_
            refine Go.zret D rfl rfl d11_25 (by decide) (by decide) ?_
            refine ⟨rfl, rfl, _, rfl, Or.inr ⟨rfl, fun z => ?_⟩⟩
            subst z
            exact hc21 rfl
    refine Go.iconst D (pc' := 8) d11_7 rfl (v := (0 : Int32)) rfl ?_
    refine Go.istoreN D (pc' := 9) d11_8 rfl (ls' := #[.val (.ref b), .val (.ref d), .val (.int (0 : Int32))]) rfl ?_
    exact loop (cs.length - 0) 0 rfl (by omega) (fun j hj => absurd hj (Nat.not_lt_zero j))
abbrev y10 : MethodName := ⟨"java/lang/String", "equals", "(Ljava/lang/Object;)Z"⟩
theorem d10_0 : decode jdk_42_method_66_code 0 = .ok (.aload_n 0, 1) := by decide +kernel
theorem d10_1 : decode jdk_42_method_66_code 1 = .ok (.aload_n 1, 1) := by decide +kernel
theorem d10_2 : decode jdk_42_method_66_code 2 = .ok (.if_acmp .ne 5, 3) := by decide +kernel
theorem d10_5 : decode jdk_42_method_66_code 5 = .ok (.iconst 1, 1) := by decide +kernel
theorem d10_6 : decode jdk_42_method_66_code 6 = .ok (.ireturn, 1) := by decide +kernel
theorem d10_7 : decode jdk_42_method_66_code 7 = .ok (.aload_n 1, 1) := by decide +kernel
theorem d10_8 : decode jdk_42_method_66_code 8 = .ok (.instanceof 10, 3) := by decide +kernel
theorem d10_11 : decode jdk_42_method_66_code 11 = .ok (.ifCond .eq 43, 3) := by decide +kernel
theorem d10_14 : decode jdk_42_method_66_code 14 = .ok (.aload_n 1, 1) := by decide +kernel
theorem d10_15 : decode jdk_42_method_66_code 15 = .ok (.checkcast 10, 3) := by decide +kernel
theorem d10_18 : decode jdk_42_method_66_code 18 = .ok (.astore_n 2, 1) := by decide +kernel
theorem d10_19 : decode jdk_42_method_66_code 19 = .ok (.getstatic 38, 3) := by decide +kernel
theorem d10_22 : decode jdk_42_method_66_code 22 = .ok (.ifCond .eq 14, 3) := by decide +kernel
theorem d10_25 : decode jdk_42_method_66_code 25 = .ok (.aload_n 0, 1) := by decide +kernel
theorem d10_26 : decode jdk_42_method_66_code 26 = .ok (.getfield 15, 3) := by decide +kernel
theorem d10_29 : decode jdk_42_method_66_code 29 = .ok (.aload_n 2, 1) := by decide +kernel
theorem d10_30 : decode jdk_42_method_66_code 30 = .ok (.getfield 15, 3) := by decide +kernel
theorem d10_33 : decode jdk_42_method_66_code 33 = .ok (.if_icmp .ne 21, 3) := by decide +kernel
theorem d10_36 : decode jdk_42_method_66_code 36 = .ok (.aload_n 0, 1) := by decide +kernel
theorem d10_37 : decode jdk_42_method_66_code 37 = .ok (.getfield 9, 3) := by decide +kernel
theorem d10_40 : decode jdk_42_method_66_code 40 = .ok (.aload_n 2, 1) := by decide +kernel
theorem d10_41 : decode jdk_42_method_66_code 41 = .ok (.getfield 9, 3) := by decide +kernel
theorem d10_44 : decode jdk_42_method_66_code 44 = .ok (.invokestatic 541, 3) := by decide +kernel
theorem d10_47 : decode jdk_42_method_66_code 47 = .ok (.ifCond .eq 7, 3) := by decide +kernel
theorem d10_50 : decode jdk_42_method_66_code 50 = .ok (.iconst 1, 1) := by decide +kernel
theorem d10_51 : decode jdk_42_method_66_code 51 = .ok (.goto 4, 3) := by decide +kernel
theorem d10_54 : decode jdk_42_method_66_code 54 = .ok (.iconst 0, 1) := by decide +kernel
theorem d10_55 : decode jdk_42_method_66_code 55 = .ok (.ireturn, 1) := by decide +kernel
theorem pd10 : parseMethodDescriptor "(Ljava/lang/Object;)Z" = some ⟨[(.object "java/lang/Object")], (some .boolean)⟩ := by decide +kernel
theorem pn10 : plainFor y10 = true := by first | exact plainFor_of_name (by first | (simp [plainName, overriddenIn]; done) | decide +kernel) | decide +kernel | rfl
set_option maxRecDepth 65536 in
set_option maxHeartbeats 40000000 in
theorem con_seq (l : Launch) (Z : State) (a0 : Array Value) (hw : ∀ d ∈ tables_1, d.before a0 Z = true) (h0 : Heap) (n0 : Nat) (σ : Sg) (s u : Addr) (cs ds : List Int32) (S : Str Z h0 s cs) (U : Str Z h0 u ds) (cz : Int32) (hcz : ¬ cz = 0) (O2 : Sta Z Z.heap "java/lang/String" "COMPACT_STRINGS" "Z" (.int cz)) :
    Con l Z y10 jdk_42_method_66_code 3 ((some .boolean)) ({ frames := 1, cells := 0, slots := 0, locals := 14 } : Room) [] #[(.ref s), (.ref u)] σ h0 n0 (fun v h τ => h0 = h ∧ σ = τ ∧ ∃ r, v = some (.int r) ∧ ((r = 1 ∧ cs = ds) ∨ (r = 0 ∧ ¬ cs = ds))) := by
  refine Con.of_go pn10 (ls := #[.val (.ref s), .val (.ref u), .unset]) (fun m => by first | (simp [entryFrame, mkF, argsToLocals, Value.category]; done) | rfl) ?_
  intro κ D
  obtain ⟨e1, e2, b, kb, e3, e4⟩ := id S.1
  obtain ⟨f1, f2, d, kd, f3, f4⟩ := id U.1
  refine Go.aloadN D (pc' := 1) d10_0 rfl rfl rfl ?_
  refine Go.aloadN D (pc' := 2) d10_1 rfl rfl rfl ?_
  refine Go.acmpNe D (pc' := 7) (pc2 := 5) rfl rfl d10_2 (by decide) (by decide) rfl ?_ ?_
  · intro (hc2 : ¬ (.ref s : Value) = .ref u)
    refine Go.aloadN D (pc' := 8) d10_7 rfl rfl rfl ?_
    refine Go.instY D (pc' := 11) (hw _ (List.mem_of_getElem? (i := 62) rfl)) d10_8 rfl (Ins.self f1) ?_
    refine Go.ifc D (pc' := 54) (pc2 := 14) d10_11 (by decide) (by decide) rfl (fun (hc : (1 : Int32) = 0) => absurd hc (by decide)) (fun _ => ?_)
    refine Go.aloadN D (pc' := 15) d10_14 rfl rfl rfl ?_
    refine Go.castY D (pc' := 18) (hw _ (List.mem_of_getElem? (i := 62) rfl)) d10_15 rfl (Ins.self f1) ?_
    refine Go.astoreN D (pc' := 19) d10_18 rfl rfl (ls' := #[.val (.ref s), .val (.ref u), .val (.ref u)]) rfl ?_
    refine Go.getS D (pc' := 22) (hw _ (List.mem_of_getElem? (i := 63) rfl)) d10_19 rfl O2 ?_
    refine Go.ifc D (pc' := 36) (pc2 := 25) d10_22 (by decide) (by decide) rfl ?_ ?_
    · intro (hc22 : cz = 0)
      exact absurd hc22 hcz
    · intro (hc22 : ¬ cz = 0)
      refine Go.aloadN D (pc' := 26) d10_25 rfl rfl rfl ?_
      refine Go.getF D (pc' := 29) (hw _ (List.mem_of_getElem? (i := 31) rfl)) d10_26 rfl e2 ?_
      refine Go.aloadN D (pc' := 30) d10_29 rfl rfl rfl ?_
      refine Go.getF D (pc' := 33) (hw _ (List.mem_of_getElem? (i := 31) rfl)) d10_30 rfl f2 ?_
      refine Go.icmp D (pc' := 54) (pc2 := 36) d10_33 (by decide) (by decide) rfl (fun (hc : ¬ (0 : Int32) = (0 : Int32)) => absurd hc (by decide)) (fun _ => ?_)
      refine Go.aloadN D (pc' := 37) d10_36 rfl rfl rfl ?_
      refine Go.getF D (pc' := 40) (hw _ (List.mem_of_getElem? (i := 30) rfl)) d10_37 rfl e3 ?_
      refine Go.aloadN D (pc' := 41) d10_40 rfl rfl rfl ?_
      refine Go.getF D (pc' := 44) (hw _ (List.mem_of_getElem? (i := 30) rfl)) d10_41 rfl f3 ?_
      refine Go.callS D (argsL := [(.ref b), (.ref d)]) (rest := []) (pc' := 47) (ce' := 0) (sl' := 0) (con_leq l Z a0 hw h0 n0 σ b d kb kd cs ds e4 f4 S.2 U.2) (hw _ (List.mem_of_getElem? (i := 64) rfl)) (hw _ (List.mem_of_getElem? (i := 65) rfl)) (hw _ (List.mem_of_getElem? (i := 66) rfl)) (hw _ (List.mem_of_getElem? (i := 67) rfl)) (by decide) d10_44 rfl pd11 rfl rfl rfl (by decide) (W := 0) rfl (by decide) (by decide) (by decide) (by decide) (by decide) ?_
      intro v44 h1 σ44 q44
      obtain ⟨rfl, rfl, r, rfl, hr⟩ := q44
      show Go κ σ h0 0 0 47 #[.val (.ref s), .val (.ref u), .val (.ref u)] [(.int r)]
      refine Go.ifc D (pc' := 54) (pc2 := 50) d10_47 (by decide) (by decide) rfl ?_ ?_
      · intro (hc47 : r = 0)
        refine Go.iconst D (pc' := 55) d10_54 rfl (v := (0 : Int32)) rfl ?_
        refine Go.zret D rfl rfl d10_55 (by decide) (by decide) ?_
        exact ⟨rfl, rfl, _, rfl, Or.inr ⟨rfl, hr.elim (fun z => absurd hc47 (by rw [z.1]; decide)) (fun z => z.2)⟩⟩
      · intro (hc47 : ¬ r = 0)
        refine Go.iconst D (pc' := 51) d10_50 rfl (v := (1 : Int32)) rfl ?_
        refine Go.goto D (pc' := 55) d10_51 (by decide) (by decide) ?_
        refine Go.zret D rfl rfl d10_55 (by decide) (by decide) ?_
        exact ⟨rfl, rfl, _, rfl, Or.inl ⟨rfl, hr.elim (fun z => z.2) (fun z => absurd z.1 hc47)⟩⟩
  · intro (hc2 : (.ref s : Value) = .ref u)
    refine Go.iconst D (pc' := 6) d10_5 rfl (v := (1 : Int32)) rfl ?_
    refine Go.zret D rfl rfl d10_6 (by decide) (by decide) ?_
    have e : s = u := by injection hc2
    subst e
    exact ⟨rfl, rfl, _, rfl, Or.inl ⟨rfl, S.uniq U⟩⟩
abbrev y7 : MethodName := ⟨"java/util/Objects", "requireNonNull", "(Ljava/lang/Object;Ljava/lang/String;)Ljava/lang/Object;"⟩
theorem d7_0 : decode jdk_31_method_11_code 0 = .ok (.aload_n 0, 1) := by decide +kernel
theorem d7_1 : decode jdk_31_method_11_code 1 = .ok (.ifnonnull 12, 3) := by decide +kernel
theorem d7_13 : decode jdk_31_method_11_code 13 = .ok (.aload_n 0, 1) := by decide +kernel
theorem d7_14 : decode jdk_31_method_11_code 14 = .ok (.areturn, 1) := by decide +kernel
theorem pd7 : parseMethodDescriptor "(Ljava/lang/Object;Ljava/lang/String;)Ljava/lang/Object;" = some ⟨[(.object "java/lang/Object"), (.object "java/lang/String")], (some (.object "java/lang/Object"))⟩ := by decide +kernel
theorem pn7 : plainFor y7 = true := by first | exact plainFor_of_name (by first | (simp [plainName, overriddenIn]; done) | decide +kernel) | decide +kernel | rfl
set_option maxRecDepth 65536 in
set_option maxHeartbeats 40000000 in
theorem con_rnn (l : Launch) (Z : State) (a0 : Array Value) (hw : ∀ d ∈ tables_1, d.before a0 Z = true) (h0 : Heap) (n0 : Nat) (σ : Sg) (s u : Addr) :
    Con l Z y7 jdk_31_method_11_code 2 ((some (.object "java/lang/Object"))) ({ frames := 0, cells := 0, slots := 0, locals := 0 } : Room) [] #[(.ref s), (.ref u)] σ h0 n0 (fun v h τ => h0 = h ∧ σ = τ ∧ v = some (.ref s)) := by
  refine Con.of_go pn7 (ls := #[.val (.ref s), .val (.ref u)]) (fun m => by first | (simp [entryFrame, mkF, argsToLocals, Value.category]; done) | rfl) ?_
  intro κ D
  refine Go.aloadN D (pc' := 1) d7_0 rfl rfl rfl ?_
  refine Go.ifnonnullY D (pc' := 13) d7_1 (by decide) (by decide) ?_
  refine Go.aloadN D (pc' := 14) d7_13 rfl rfl rfl ?_
  refine Go.aret D rfl rfl rfl d7_14 (by decide) (by decide) ?_
  exact ⟨rfl, rfl, rfl⟩
def lenV (x : Int32) : Int32 := (ushr x 24) % 3
def c0V (x : Int32) : Int32 := x &&& 255
def c1V (x : Int32) : Int32 := ushr x 8 &&& 255
def chs (x : Int32) : List Int32 := if lenV x = 0 then [] else if lenV x = 1 then [c0V x] else [c0V x, c1V x]
theorem mask_lat (x : Int32) : ¬ (x &&& 255) < 0 ∧ (x &&& 255) < 256 := by
  have h := c_and x 255 (by decide)
  simp only [Int32.lt_iff_toInt_lt, show (0 : Int32).toInt = 0 from rfl, show (255 : Int32).toInt = 255 from rfl, show (256 : Int32).toInt = 256 from rfl] at h ⊢
  omega
theorem len_cases (x : Int32) : lenV x = 0 ∨ lenV x = 1 ∨ lenV x = 2 := by
  have h := c_iushr x 24 24 (by decide) (by decide)
  have r := (c_irem (ushr x 24) 3 3 rfl).1 (by rw [h]; omega)
  simp only [lenV, ← Int32.toInt_inj, show (0 : Int32).toInt = 0 from rfl, show (1 : Int32).toInt = 1 from rfl, show (2 : Int32).toInt = 2 from rfl]
  omega
theorem chs0 {x : Int32} (h : lenV x = 0) : chs x = [] := if_pos h
theorem chs1 {x : Int32} (h : lenV x = 1) : chs x = [c0V x] := by unfold chs; rw [if_neg (by rw [h]; decide), if_pos h]
theorem chs2 {x : Int32} (h0 : ¬ lenV x = 0) (h1 : ¬ lenV x = 1) : chs x = [c0V x, c1V x] := by unfold chs; rw [if_neg h0, if_neg h1]

def PB (Z : State) (h : Heap) (t : Addr) (v1 v2 : Value) : Prop := Exa Z h t "com/example/comb/comb/io/Topic" ∧ Fld Z h t "com/example/comb/comb/io/Topic" "id" "Ljava/lang/String;" v1 ∧ Fld Z h t "com/example/comb/comb/io/Topic" "text" "Ljava/lang/String;" v2
theorem PB.ext {Z : State} {h h' : Heap} {t : Addr} {v1 v2 : Value} (F : PB Z h t v1 v2) (E : Ext h h') : PB Z h' t v1 v2 := ⟨F.1.ext E, F.2.1.ext E, F.2.2.ext E⟩
theorem PB.set1 {Z : State} {a0 : Array Value} (hw : ∀ d ∈ tables_1, d.before a0 Z = true) {h h' : Heap} {t : Addr} {v1 v2 v : Value} (F : PB Z h t v1 v2) (W : Wr h h' t (Jvm.RoadKit.slotOf Z "com/example/comb/comb/io/Topic" "id" "Ljava/lang/String;") v) : PB Z h' t v v2 := ⟨F.1.wr W, F.2.1.same W, F.2.2.other W (Or.inr (slot_ne (Or.inr (hw _ (List.mem_of_getElem? (i := 46) rfl))) (Or.inr (hw _ (List.mem_of_getElem? (i := 43) rfl))) (by decide) (t := .object "java/lang/String") (t' := .object "java/lang/String") (by decide) (by decide)))⟩
theorem PB.set2 {Z : State} {a0 : Array Value} (hw : ∀ d ∈ tables_1, d.before a0 Z = true) {h h' : Heap} {t : Addr} {v1 v2 v : Value} (F : PB Z h t v1 v2) (W : Wr h h' t (Jvm.RoadKit.slotOf Z "com/example/comb/comb/io/Topic" "text" "Ljava/lang/String;") v) : PB Z h' t v1 v := ⟨F.1.wr W, F.2.1.other W (Or.inr (slot_ne (Or.inr (hw _ (List.mem_of_getElem? (i := 43) rfl))) (Or.inr (hw _ (List.mem_of_getElem? (i := 46) rfl))) (by decide) (t := .object "java/lang/String") (t' := .object "java/lang/String") (by decide) (by decide))), F.2.2.same W⟩
theorem nlit {Z : State} {h : Heap} {t : Addr} {L : List (String × Nat × String × Addr)} (E : Exa Z h t "com/example/comb/comb/io/Topic") (K : CsOk CS Z h L) : ∀ q ∈ L, q.2.2.2 ≠ t := fun q hq => Exa.ne (K q hq).2.1 E (by decide)

abbrev y2 : MethodName := ⟨"com/example/comb/comb/io/TopicEqualsPinLaw", "len", "(I)I"⟩
theorem d2_0 : decode method_2_code 0 = .ok (.iload_n 0, 1) := by decide +kernel
theorem d2_1 : decode method_2_code 1 = .ok (.bipush 24, 2) := by decide +kernel
theorem d2_3 : decode method_2_code 3 = .ok (.iushr, 1) := by decide +kernel
theorem d2_4 : decode method_2_code 4 = .ok (.iconst 3, 1) := by decide +kernel
theorem d2_5 : decode method_2_code 5 = .ok (.irem, 1) := by decide +kernel
theorem d2_6 : decode method_2_code 6 = .ok (.ireturn, 1) := by decide +kernel
theorem pd2 : parseMethodDescriptor "(I)I" = some ⟨[.int], (some .int)⟩ := by decide +kernel
theorem pn2 : plainFor y2 = true := by first | exact plainFor_of_name (by first | (simp [plainName, overriddenIn]; done) | decide +kernel) | decide +kernel | rfl
set_option maxRecDepth 65536 in
set_option maxHeartbeats 40000000 in
theorem con_len (l : Launch) (Z : State) (a0 : Array Value) (hw : ∀ d ∈ tables_1, d.before a0 Z = true) (h0 : Heap) (n0 : Nat) (σ : Sg) (x : Int32) :
    Con l Z y2 method_2_code 1 ((some .int)) ({ frames := 0, cells := 0, slots := 0, locals := 0 } : Room) [] #[(.int x)] σ h0 n0 (fun v h τ => h0 = h ∧ σ = τ ∧ v = some (.int (lenV x))) := by
  refine Con.of_go pn2 (ls := #[.val (.int x)]) (fun m => by first | (simp [entryFrame, mkF, argsToLocals, Value.category]; done) | rfl) ?_
  intro κ D
  refine Go.iloadN D (pc' := 1) d2_0 rfl rfl ?_
  refine Go.bipush D (pc' := 3) d2_1 rfl (v := (24 : Int32)) rfl ?_
  refine Go.iushr D (pc' := 4) d2_3 rfl  ?_
  refine Go.iconst D (pc' := 5) d2_4 rfl (v := (3 : Int32)) rfl ?_
  refine Go.irem D (pc' := 6) d2_5 rfl (by decide) ?_
  refine Go.iret D rfl d2_6 (by decide) (by decide) ?_
  exact ⟨rfl, rfl, rfl⟩
abbrev y1 : MethodName := ⟨"com/example/comb/comb/io/TopicEqualsPinLaw", "mk", "(I)Ljava/lang/String;"⟩
theorem d1_0 : decode method_3_code 0 = .ok (.iload_n 0, 1) := by decide +kernel
theorem d1_1 : decode method_3_code 1 = .ok (.invokestatic 7, 3) := by decide +kernel
theorem d1_4 : decode method_3_code 4 = .ok (.istore_n 1, 1) := by decide +kernel
theorem d1_5 : decode method_3_code 5 = .ok (.iload_n 0, 1) := by decide +kernel
theorem d1_6 : decode method_3_code 6 = .ok (.sipush 255, 3) := by decide +kernel
theorem d1_9 : decode method_3_code 9 = .ok (.iand, 1) := by decide +kernel
theorem d1_10 : decode method_3_code 10 = .ok (.i2c, 1) := by decide +kernel
theorem d1_11 : decode method_3_code 11 = .ok (.istore_n 2, 1) := by decide +kernel
theorem d1_12 : decode method_3_code 12 = .ok (.iload_n 0, 1) := by decide +kernel
theorem d1_13 : decode method_3_code 13 = .ok (.bipush 8, 2) := by decide +kernel
theorem d1_15 : decode method_3_code 15 = .ok (.iushr, 1) := by decide +kernel
theorem d1_16 : decode method_3_code 16 = .ok (.sipush 255, 3) := by decide +kernel
theorem d1_19 : decode method_3_code 19 = .ok (.iand, 1) := by decide +kernel
theorem d1_20 : decode method_3_code 20 = .ok (.i2c, 1) := by decide +kernel
theorem d1_21 : decode method_3_code 21 = .ok (.istore_n 3, 1) := by decide +kernel
theorem d1_22 : decode method_3_code 22 = .ok (.iload_n 1, 1) := by decide +kernel
theorem d1_23 : decode method_3_code 23 = .ok (.ifCond .ne 14, 3) := by decide +kernel
theorem d1_26 : decode method_3_code 26 = .ok (.new 13, 3) := by decide +kernel
theorem d1_29 : decode method_3_code 29 = .ok (.dup, 1) := by decide +kernel
theorem d1_30 : decode method_3_code 30 = .ok (.iconst 0, 1) := by decide +kernel
theorem d1_31 : decode method_3_code 31 = .ok (.newarray .char, 2) := by decide +kernel
theorem d1_33 : decode method_3_code 33 = .ok (.invokespecial 15, 3) := by decide +kernel
theorem d1_36 : decode method_3_code 36 = .ok (.areturn, 1) := by decide +kernel
theorem d1_37 : decode method_3_code 37 = .ok (.iload_n 1, 1) := by decide +kernel
theorem d1_38 : decode method_3_code 38 = .ok (.iconst 1, 1) := by decide +kernel
theorem d1_39 : decode method_3_code 39 = .ok (.if_icmp .ne 23, 3) := by decide +kernel
theorem d1_42 : decode method_3_code 42 = .ok (.iconst 1, 1) := by decide +kernel
theorem d1_43 : decode method_3_code 43 = .ok (.newarray .char, 2) := by decide +kernel
theorem d1_45 : decode method_3_code 45 = .ok (.astore 4, 2) := by decide +kernel
theorem d1_47 : decode method_3_code 47 = .ok (.aload 4, 2) := by decide +kernel
theorem d1_49 : decode method_3_code 49 = .ok (.iconst 0, 1) := by decide +kernel
theorem d1_50 : decode method_3_code 50 = .ok (.iload_n 2, 1) := by decide +kernel
theorem d1_51 : decode method_3_code 51 = .ok (.castore, 1) := by decide +kernel
theorem d1_52 : decode method_3_code 52 = .ok (.new 13, 3) := by decide +kernel
theorem d1_55 : decode method_3_code 55 = .ok (.dup, 1) := by decide +kernel
theorem d1_56 : decode method_3_code 56 = .ok (.aload 4, 2) := by decide +kernel
theorem d1_58 : decode method_3_code 58 = .ok (.invokespecial 15, 3) := by decide +kernel
theorem d1_61 : decode method_3_code 61 = .ok (.areturn, 1) := by decide +kernel
theorem d1_62 : decode method_3_code 62 = .ok (.iconst 2, 1) := by decide +kernel
theorem d1_63 : decode method_3_code 63 = .ok (.newarray .char, 2) := by decide +kernel
theorem d1_65 : decode method_3_code 65 = .ok (.astore 4, 2) := by decide +kernel
theorem d1_67 : decode method_3_code 67 = .ok (.aload 4, 2) := by decide +kernel
theorem d1_69 : decode method_3_code 69 = .ok (.iconst 0, 1) := by decide +kernel
theorem d1_70 : decode method_3_code 70 = .ok (.iload_n 2, 1) := by decide +kernel
theorem d1_71 : decode method_3_code 71 = .ok (.castore, 1) := by decide +kernel
theorem d1_72 : decode method_3_code 72 = .ok (.aload 4, 2) := by decide +kernel
theorem d1_74 : decode method_3_code 74 = .ok (.iconst 1, 1) := by decide +kernel
theorem d1_75 : decode method_3_code 75 = .ok (.iload_n 3, 1) := by decide +kernel
theorem d1_76 : decode method_3_code 76 = .ok (.castore, 1) := by decide +kernel
theorem d1_77 : decode method_3_code 77 = .ok (.new 13, 3) := by decide +kernel
theorem d1_80 : decode method_3_code 80 = .ok (.dup, 1) := by decide +kernel
theorem d1_81 : decode method_3_code 81 = .ok (.aload 4, 2) := by decide +kernel
theorem d1_83 : decode method_3_code 83 = .ok (.invokespecial 15, 3) := by decide +kernel
theorem d1_86 : decode method_3_code 86 = .ok (.areturn, 1) := by decide +kernel
theorem pd1 : parseMethodDescriptor "(I)Ljava/lang/String;" = some ⟨[.int], (some (.object "java/lang/String"))⟩ := by decide +kernel
theorem pn1 : plainFor y1 = true := by first | exact plainFor_of_name (by first | (simp [plainName, overriddenIn]; done) | decide +kernel) | decide +kernel | rfl
set_option maxRecDepth 65536 in
set_option maxHeartbeats 40000000 in
theorem con_mk (l : Launch) (Z : State) (a0 : Array Value) (hw : ∀ d ∈ tables_1, d.before a0 Z = true) (h0 : Heap) (n0 : Nat) (x : Int32) (Z0 : n0 ≤ h0.size) (hcw : Jvm.Lit.compactW.before a0 Z = true) (hh : Jvm.Lit.constHeld Z "java/lang/String" 7) (cz : Int32) (hcz : ¬ cz = 0) (O2 : Sta Z Z.heap "java/lang/String" "COMPACT_STRINGS" "Z" (.int cz)) (L : List (String × Nat × String × Addr)) (K0 : CsOk CS Z h0 L) :
    Con l Z y1 method_3_code 5 ((some (.object "java/lang/String"))) ({ frames := 4, cells := 6, slots := 80, locals := 90 } : Room) [] #[(.int x)] (some L) h0 n0 (fun v h τ => ∃ a L', v = some (.ref a) ∧ h0.size ≤ a ∧ Ext h0 h ∧ Str Z h a (chs x) ∧ τ = some L' ∧ CsOk CS Z h L') := by
  refine Con.of_go pn1 (ls := #[.val (.int x), .unset, .unset, .unset, .unset]) (fun m => by first | (simp [entryFrame, mkF, argsToLocals, Value.category]; done) | rfl) ?_
  intro κ D
  refine Go.iloadN D (pc' := 1) d1_0 rfl rfl ?_
  refine Go.callS D (argsL := [(.int x)]) (rest := []) (pc' := 4) (ce' := 0) (sl' := 0) (con_len l Z a0 hw h0 n0 (some L) x) (hw _ (List.mem_of_getElem? (i := 7) rfl)) (hw _ (List.mem_of_getElem? (i := 8) rfl)) (hw _ (List.mem_of_getElem? (i := 5) rfl)) (hw _ (List.mem_of_getElem? (i := 9) rfl)) (by decide) d1_1 rfl pd2 rfl rfl rfl (by decide) (W := 0) rfl (by decide) (by decide) (by decide) (by decide) (by decide) ?_
  intro v1 h1 σ1 q1
  obtain ⟨rfl, rfl, rfl⟩ := q1
  show Go κ (some L) h0 0 0 4 #[.val (.int x), .unset, .unset, .unset, .unset] [(.int (lenV x))]
  refine Go.istoreN D (pc' := 5) d1_4 rfl (ls' := #[.val (.int x), .val (.int (lenV x)), .unset, .unset, .unset]) rfl ?_
  refine Go.iloadN D (pc' := 6) d1_5 rfl rfl ?_
  refine Go.sipush D (pc' := 9) d1_6 rfl (v := (255 : Int32)) rfl ?_
  refine Go.iand D (pc' := 10) d1_9 rfl  ?_
  refine Go.i2c D (pc' := 11) d1_10 rfl  ?_
  rw [i2c_mask]
  show Go κ (some L) h0 0 0 11 #[.val (.int x), .val (.int (lenV x)), .unset, .unset, .unset] [(.int (c0V x))]
  refine Go.istoreN D (pc' := 12) d1_11 rfl (ls' := #[.val (.int x), .val (.int (lenV x)), .val (.int (c0V x)), .unset, .unset]) rfl ?_
  refine Go.iloadN D (pc' := 13) d1_12 rfl rfl ?_
  refine Go.bipush D (pc' := 15) d1_13 rfl (v := (8 : Int32)) rfl ?_
  refine Go.iushr D (pc' := 16) d1_15 rfl  ?_
  refine Go.sipush D (pc' := 19) d1_16 rfl (v := (255 : Int32)) rfl ?_
  refine Go.iand D (pc' := 20) d1_19 rfl  ?_
  refine Go.i2c D (pc' := 21) d1_20 rfl  ?_
  rw [i2c_mask]
  show Go κ (some L) h0 0 0 21 #[.val (.int x), .val (.int (lenV x)), .val (.int (c0V x)), .unset, .unset] [(.int (c1V x))]
  refine Go.istoreN D (pc' := 22) d1_21 rfl (ls' := #[.val (.int x), .val (.int (lenV x)), .val (.int (c0V x)), .val (.int (c1V x)), .unset]) rfl ?_
  refine Go.iloadN D (pc' := 23) d1_22 rfl rfl ?_
  refine Go.ifc D (pc' := 37) (pc2 := 26) d1_23 (by decide) (by decide) rfl ?_ ?_
  · intro (hc23 : ¬ (lenV x) = 0)
    refine Go.iloadN D (pc' := 38) d1_37 rfl rfl ?_
    refine Go.iconst D (pc' := 39) d1_38 rfl (v := (1 : Int32)) rfl ?_
    refine Go.icmp D (pc' := 62) (pc2 := 42) d1_39 (by decide) (by decide) rfl ?_ ?_
    · intro (hc39 : ¬ (lenV x) = (1 : Int32))
      refine Go.iconst D (pc' := 63) d1_62 rfl (v := (2 : Int32)) rfl ?_
      refine Go.newP D (pc' := 65) (aty := .char) (cap := 2) (ce' := 1) (sl' := 2) (hw _ (List.mem_of_getElem? (i := 13) rfl)) d1_63 rfl (by decide) (by decide) (by decide) rfl rfl (by decide) (by decide) ?_
      intro h63 a63 k63 ga63 E63 A63
      have yy63 := E63.1
      refine Go.astore D (pc' := 67) d1_65 rfl rfl (ls' := #[.val (.int x), .val (.int (lenV x)), .val (.int (c0V x)), .val (.int (c1V x)), .val (.ref a63)]) rfl ?_
      refine Go.aload D (pc' := 69) d1_67 rfl rfl rfl ?_
      refine Go.iconst D (pc' := 70) d1_69 rfl (v := (0 : Int32)) rfl ?_
      refine Go.iloadN D (pc' := 71) d1_70 rfl rfl ?_
      refine Go.castore D (pc' := 72) (i := 0) d1_71 rfl (A63.pad (vs' := [.int 0, .int 0]) (fun i => pad_rep [] (.int 0) 2 i)) (by decide) (by decide) rfl (by simp) (by omega) (i2c_mask _) ?_
      intro h71 K71 A71
      have x71 := E63.keepN K71 (by omega)
      refine Go.aload D (pc' := 74) d1_72 rfl rfl rfl ?_
      refine Go.iconst D (pc' := 75) d1_74 rfl (v := (1 : Int32)) rfl ?_
      refine Go.iloadN D (pc' := 76) d1_75 rfl rfl ?_
      refine Go.castore D (pc' := 77) (i := 1) d1_76 rfl A71 (by decide) (by decide) rfl (by simp) (by omega) (i2c_mask _) ?_
      intro h76 K76 A76
      have x76 := x71.keepN K76 (by omega)
      refine Go.newO D (pc' := 80) (ce' := 2) (sl' := 6) (hw _ (List.mem_of_getElem? (i := 10) rfl)) (hw _ (List.mem_of_getElem? (i := 11) rfl)) (hw _ (List.mem_of_getElem? (i := 12) rfl)) d1_77 rfl rfl rfl (by decide) (by decide) ?_
      intro h77 s77 gs77 E77 X77 D77
      have V77 := D77 (Or.inr (hw _ (List.mem_of_getElem? (i := 26) rfl))) (ty := .array .byte) (by decide)
      have C77 := D77 (Or.inr (hw _ (List.mem_of_getElem? (i := 27) rfl))) (ty := .byte) (by decide)
      have e83 := x76.tr E77
      have xx77 := x76.1
      refine Go.dup D (pc' := 81) d1_80 rfl rfl ?_
      refine Go.aload D (pc' := 83) d1_81 rfl rfl rfl ?_
      have hl83 : Lat [c0V x, c1V x] := ⟨by
          intro c hc
          simp only [List.mem_cons, List.not_mem_nil, or_false] at hc
          rcases hc with rfl | rfl <;> exact mask_lat _, by simp⟩
      refine Go.callI D (argsL := [(.ref a63)]) (rest := [(.ref s77)]) (pc' := 86) (ce' := 3) (sl' := 70) (con_strN l Z a0 hw h77 n0 (by have := e83.1; omega) (some L) s77 a63 k63 [c0V x, c1V x] (A76.ext E77) hl83 (by simp) cz hcz O2 (by omega) X77 V77 C77) rfl (hw _ (List.mem_of_getElem? (i := 14) rfl)) (hw _ (List.mem_of_getElem? (i := 15) rfl)) (hw _ (List.mem_of_getElem? (i := 12) rfl)) (hw _ (List.mem_of_getElem? (i := 16) rfl)) (by decide) d1_83 rfl pd3 rfl rfl rfl (by decide) (W := 1) rfl (by decide) (by decide) (by decide) (by decide) (by decide) ?_
      intro v83 h83 σ83 q83
      obtain ⟨rfl, rfl, kk, S83⟩ := q83
      show Go κ (some L) h83 3 70 86 #[.val (.int x), .val (.int (lenV x)), .val (.int (c0V x)), .val (.int (c1V x)), .val (.ref a63)] [(.ref s77)]
      have f83 := e83.keepN kk (by omega)
      have KK83 := K0.ext f83
      refine Go.aret D rfl rfl rfl d1_86 (by decide) (by decide) ?_
      exact ⟨_, _, rfl, by omega, f83, ((chs2 hc23 hc39).symm ▸ S83), rfl, KK83⟩
    · intro (hc39 : (lenV x) = (1 : Int32))
      refine Go.iconst D (pc' := 43) d1_42 rfl (v := (1 : Int32)) rfl ?_
      refine Go.newP D (pc' := 45) (aty := .char) (cap := 1) (ce' := 1) (sl' := 1) (hw _ (List.mem_of_getElem? (i := 13) rfl)) d1_43 rfl (by decide) (by decide) (by decide) rfl rfl (by decide) (by decide) ?_
      intro h43 a43 k43 ga43 E43 A43
      have yy43 := E43.1
      refine Go.astore D (pc' := 47) d1_45 rfl rfl (ls' := #[.val (.int x), .val (.int (lenV x)), .val (.int (c0V x)), .val (.int (c1V x)), .val (.ref a43)]) rfl ?_
      refine Go.aload D (pc' := 49) d1_47 rfl rfl rfl ?_
      refine Go.iconst D (pc' := 50) d1_49 rfl (v := (0 : Int32)) rfl ?_
      refine Go.iloadN D (pc' := 51) d1_50 rfl rfl ?_
      refine Go.castore D (pc' := 52) (i := 0) d1_51 rfl (A43.pad (vs' := [.int 0]) (fun i => pad_rep [] (.int 0) 1 i)) (by decide) (by decide) rfl (by simp) (by omega) (i2c_mask _) ?_
      intro h51 K51 A51
      have x51 := E43.keepN K51 (by omega)
      refine Go.newO D (pc' := 55) (ce' := 2) (sl' := 5) (hw _ (List.mem_of_getElem? (i := 10) rfl)) (hw _ (List.mem_of_getElem? (i := 11) rfl)) (hw _ (List.mem_of_getElem? (i := 12) rfl)) d1_52 rfl rfl rfl (by decide) (by decide) ?_
      intro h52 s52 gs52 E52 X52 D52
      have V52 := D52 (Or.inr (hw _ (List.mem_of_getElem? (i := 26) rfl))) (ty := .array .byte) (by decide)
      have C52 := D52 (Or.inr (hw _ (List.mem_of_getElem? (i := 27) rfl))) (ty := .byte) (by decide)
      have e58 := x51.tr E52
      have xx52 := x51.1
      refine Go.dup D (pc' := 56) d1_55 rfl rfl ?_
      refine Go.aload D (pc' := 58) d1_56 rfl rfl rfl ?_
      have hl58 : Lat [c0V x] := ⟨by
          intro c hc
          simp only [List.mem_cons, List.not_mem_nil, or_false] at hc
          rcases hc with rfl <;> exact mask_lat _, by simp⟩
      refine Go.callI D (argsL := [(.ref a43)]) (rest := [(.ref s52)]) (pc' := 61) (ce' := 3) (sl' := 69) (con_strN l Z a0 hw h52 n0 (by have := e58.1; omega) (some L) s52 a43 k43 [c0V x] (A51.ext E52) hl58 (by simp) cz hcz O2 (by omega) X52 V52 C52) rfl (hw _ (List.mem_of_getElem? (i := 14) rfl)) (hw _ (List.mem_of_getElem? (i := 15) rfl)) (hw _ (List.mem_of_getElem? (i := 12) rfl)) (hw _ (List.mem_of_getElem? (i := 16) rfl)) (by decide) d1_58 rfl pd3 rfl rfl rfl (by decide) (W := 1) rfl (by decide) (by decide) (by decide) (by decide) (by decide) ?_
      intro v58 h58 σ58 q58
      obtain ⟨rfl, rfl, kk, S58⟩ := q58
      show Go κ (some L) h58 3 69 61 #[.val (.int x), .val (.int (lenV x)), .val (.int (c0V x)), .val (.int (c1V x)), .val (.ref a43)] [(.ref s52)]
      have f58 := e58.keepN kk (by omega)
      have KK58 := K0.ext f58
      refine Go.aret D rfl rfl rfl d1_61 (by decide) (by decide) ?_
      exact ⟨_, _, rfl, by omega, f58, ((chs1 hc39).symm ▸ S58), rfl, KK58⟩
  · intro (hc23 : (lenV x) = 0)
    refine Go.newO D (pc' := 29) (ce' := 1) (sl' := 4) (hw _ (List.mem_of_getElem? (i := 10) rfl)) (hw _ (List.mem_of_getElem? (i := 11) rfl)) (hw _ (List.mem_of_getElem? (i := 12) rfl)) d1_26 rfl rfl rfl (by decide) (by decide) ?_
    intro h26 s26 gs26 E26 X26 D26
    have V26 := D26 (Or.inr (hw _ (List.mem_of_getElem? (i := 26) rfl))) (ty := .array .byte) (by decide)
    have C26 := D26 (Or.inr (hw _ (List.mem_of_getElem? (i := 27) rfl))) (ty := .byte) (by decide)
    refine Go.dup D (pc' := 30) d1_29 rfl rfl ?_
    refine Go.iconst D (pc' := 31) d1_30 rfl (v := (0 : Int32)) rfl ?_
    refine Go.newP D (pc' := 33) (aty := .char) (cap := 0) (ce' := 2) (sl' := 4) (hw _ (List.mem_of_getElem? (i := 13) rfl)) d1_31 rfl (by decide) (by decide) (by decide) rfl rfl (by decide) (by decide) ?_
    intro h31 a31 k31 ga31 E31 A31
    have na31 : s26 ≠ a31 := own_ne (by have := own_ltn X26.lt; omega)
    have xx26 := E26.1
    have yy31 := E31.1
    have e33 := (E26.tr E31)
    refine Go.callI D (argsL := [(.ref a31)]) (rest := [(.ref s26)]) (pc' := 36) (ce' := 6) (sl' := 12) (con_strE l Z a0 hw h31 n0 s26 a31 k31 _ A31 (by omega) (X26.ext E31) (V26.ext E31) (C26.ext E31) hh hcw L (K0.ext e33)) rfl (hw _ (List.mem_of_getElem? (i := 14) rfl)) (hw _ (List.mem_of_getElem? (i := 15) rfl)) (hw _ (List.mem_of_getElem? (i := 12) rfl)) (hw _ (List.mem_of_getElem? (i := 16) rfl)) (by decide) d1_33 rfl pd3 rfl rfl rfl (by decide) (W := 1) rfl (by decide) (by decide) (by decide) (by decide) (by decide) ?_
    intro v33 h33 σ33 q33
    obtain ⟨rfl, kk, S33, L33, rfl, K33⟩ := q33
    show Go κ (some L33) h33 6 12 36 #[.val (.int x), .val (.int (lenV x)), .val (.int (c0V x)), .val (.int (c1V x)), .unset] [(.ref s26)]
    have f33 := e33.keepN kk (by omega)
    refine Go.aret D rfl rfl rfl d1_36 (by decide) (by decide) ?_
    exact ⟨_, _, rfl, by omega, f33, ((chs0 hc23).symm ▸ S33), rfl, K33⟩
abbrev y6 : MethodName := ⟨"com/example/comb/comb/io/Topic", "<init>", "(Ljava/lang/String;Ljava/lang/String;)V"⟩
theorem d6_0 : decode prog_19_method_1_code 0 = .ok (.aload_n 0, 1) := by decide +kernel
theorem d6_1 : decode prog_19_method_1_code 1 = .ok (.invokespecial 1, 3) := by decide +kernel
theorem d6_4 : decode prog_19_method_1_code 4 = .ok (.aload_n 0, 1) := by decide +kernel
theorem d6_5 : decode prog_19_method_1_code 5 = .ok (.aload_n 1, 1) := by decide +kernel
theorem d6_6 : decode prog_19_method_1_code 6 = .ok (.ldc 7, 2) := by decide +kernel
theorem d6_8 : decode prog_19_method_1_code 8 = .ok (.invokestatic 9, 3) := by decide +kernel
theorem d6_11 : decode prog_19_method_1_code 11 = .ok (.checkcast 15, 3) := by decide +kernel
theorem d6_14 : decode prog_19_method_1_code 14 = .ok (.putfield 17, 3) := by decide +kernel
theorem d6_17 : decode prog_19_method_1_code 17 = .ok (.aload_n 0, 1) := by decide +kernel
theorem d6_18 : decode prog_19_method_1_code 18 = .ok (.aload_n 2, 1) := by decide +kernel
theorem d6_19 : decode prog_19_method_1_code 19 = .ok (.ldc 22, 2) := by decide +kernel
theorem d6_21 : decode prog_19_method_1_code 21 = .ok (.invokestatic 9, 3) := by decide +kernel
theorem d6_24 : decode prog_19_method_1_code 24 = .ok (.checkcast 15, 3) := by decide +kernel
theorem d6_27 : decode prog_19_method_1_code 27 = .ok (.putfield 24, 3) := by decide +kernel
theorem d6_30 : decode prog_19_method_1_code 30 = .ok (.return_, 1) := by decide +kernel
theorem pd6 : parseMethodDescriptor "(Ljava/lang/String;Ljava/lang/String;)V" = some ⟨[(.object "java/lang/String"), (.object "java/lang/String")], none⟩ := by decide +kernel
theorem pn6 : plainFor y6 = true := by first | exact plainFor_of_name (by first | (simp [plainName, overriddenIn]; done) | decide +kernel) | decide +kernel | rfl
set_option maxRecDepth 65536 in
set_option maxHeartbeats 40000000 in
theorem con_ctor (l : Launch) (Z : State) (a0 : Array Value) (hw : ∀ d ∈ tables_1, d.before a0 Z = true) (h0 : Heap) (n0 : Nat) (t u1 u2 : Addr) (g0 : n0 ≤ t) (F : PB Z h0 t .null .null) (X1 : Exa Z h0 u1 "java/lang/String") (X2' : Exa Z h0 u2 "java/lang/String") (hcw : Jvm.Lit.compactW.before a0 Z = true) (hh1 : Jvm.Lit.constHeld Z "com/example/comb/comb/io/Topic" 7) (hh2 : Jvm.Lit.constHeld Z "com/example/comb/comb/io/Topic" 22) (L : List (String × Nat × String × Addr)) (K0 : CsOk CS Z h0 L) :
    Con l Z y6 prog_19_method_1_code 3 none ({ frames := 1, cells := 4, slots := 32, locals := 14 } : Room) [] #[(.ref t), (.ref u1), (.ref u2)] (some L) h0 n0 (fun v h τ => v = none ∧ Keep h0 h [t] ∧ PB Z h t (.ref u1) (.ref u2) ∧ ∃ L', τ = some L' ∧ CsOk CS Z h L') := by
  refine Con.of_go pn6 (ls := #[.val (.ref t), .val (.ref u1), .val (.ref u2)]) (fun m => by first | (simp [entryFrame, mkF, argsToLocals, Value.category]; done) | rfl) ?_
  intro κ D
  refine Go.aloadN D (pc' := 1) d6_0 rfl rfl rfl ?_
  refine Go.initO D (pc' := 4) (hw _ (List.mem_of_getElem? (i := 35) rfl)) (hw _ (List.mem_of_getElem? (i := 22) rfl)) (hw _ (List.mem_of_getElem? (i := 23) rfl)) d6_1 rfl rfl (by decide) (W := 0) rfl (by decide) ?_
  refine Go.aloadN D (pc' := 5) d6_4 rfl rfl rfl ?_
  refine Go.aloadN D (pc' := 6) d6_5 rfl rfl rfl ?_
  refine Go.ldcT D (pc' := 8) (n := 8) (ce' := 2) (sl' := 12) (vs := tb "id") (z := Int32.ofNat (tb "id").length) (hw _ (List.mem_of_getElem? (i := 36) rfl)) (wS hw) hh1 hcw ⟨by decide, rfl⟩ (by decide) (by decide) (K0.has (by decide)) (fun a ha => (K0 _ ha).2) d6_6 rfl (by decide) (by decide) rfl rfl (by decide) (by decide) ?_
  intro h1 c1 L1 E1 m1 l1 S1
  have K1 := K0.step E1 (by decide) l1 S1
  refine Go.callS D (argsL := [(.ref u1), (.ref c1)]) (rest := [(.ref t)]) (pc' := 11) (ce' := 2) (sl' := 12) (con_rnn l Z a0 hw h1 n0 (some L1) u1 c1) (hw _ (List.mem_of_getElem? (i := 37) rfl)) (hw _ (List.mem_of_getElem? (i := 38) rfl)) (hw _ (List.mem_of_getElem? (i := 39) rfl)) (hw _ (List.mem_of_getElem? (i := 40) rfl)) (by decide) d6_8 rfl pd7 rfl rfl rfl (by decide) (W := 1) rfl (by decide) (by decide) (by decide) (by decide) (by decide) ?_
  intro v8 h8 σ8 q8
  obtain ⟨rfl, rfl, rfl⟩ := q8
  show Go κ (some L1) h1 2 12 11 #[.val (.ref t), .val (.ref u1), .val (.ref u2)] [(.ref u1), (.ref t)]
  refine Go.castY D (pc' := 14) (hw _ (List.mem_of_getElem? (i := 41) rfl)) d6_11 rfl (Ins.self (X1.ext E1)) ?_
  refine Go.putF D (pc' := 17) (hw _ (List.mem_of_getElem? (i := 42) rfl)) d6_14 rfl (F.ext E1).2.1 (F.ext E1).1 (Or.inr ⟨(hw _ (List.mem_of_getElem? (i := 43) rfl)), rfl, rfl⟩) (hw _ (List.mem_of_getElem? (i := 1) rfl)) (ty := (.object "java/lang/String")) (by decide) rfl rfl g0 ?_
  intro h2 W2
  have F2 := (F.ext E1).set1 hw W2
  have K2 := K1.wr W2 (nlit (F.ext E1).1 K1) (F.ext E1).1 (hw _ (List.mem_of_getElem? (i := 1) rfl))
  have X2 := (X2'.ext E1).wr W2
  refine Go.aloadN D (pc' := 18) d6_17 rfl rfl rfl ?_
  refine Go.aloadN D (pc' := 19) d6_18 rfl rfl rfl ?_
  refine Go.ldcT D (pc' := 21) (n := 16) (ce' := 4) (sl' := 32) (vs := tb "text") (z := Int32.ofNat (tb "text").length) (hw _ (List.mem_of_getElem? (i := 44) rfl)) (wS hw) hh2 hcw ⟨by decide, rfl⟩ (by decide) (by decide) (K2.has (by decide)) (fun a ha => (K2 _ ha).2) d6_19 rfl (by decide) (by decide) rfl rfl (by decide) (by decide) ?_
  intro h3 c3 L3 E3 m3 l3 S3
  have K3 := K2.step E3 (by decide) l3 S3
  refine Go.callS D (argsL := [(.ref u2), (.ref c3)]) (rest := [(.ref t)]) (pc' := 24) (ce' := 4) (sl' := 32) (con_rnn l Z a0 hw h3 n0 (some L3) u2 c3) (hw _ (List.mem_of_getElem? (i := 37) rfl)) (hw _ (List.mem_of_getElem? (i := 38) rfl)) (hw _ (List.mem_of_getElem? (i := 39) rfl)) (hw _ (List.mem_of_getElem? (i := 40) rfl)) (by decide) d6_21 rfl pd7 rfl rfl rfl (by decide) (W := 1) rfl (by decide) (by decide) (by decide) (by decide) (by decide) ?_
  intro v21 h21 σ21 q21
  obtain ⟨rfl, rfl, rfl⟩ := q21
  show Go κ (some L3) h3 4 32 24 #[.val (.ref t), .val (.ref u1), .val (.ref u2)] [(.ref u2), (.ref t)]
  refine Go.castY D (pc' := 27) (hw _ (List.mem_of_getElem? (i := 41) rfl)) d6_24 rfl (Ins.self (X2.ext E3)) ?_
  refine Go.putF D (pc' := 30) (hw _ (List.mem_of_getElem? (i := 45) rfl)) d6_27 rfl (F2.ext E3).2.2 (F2.ext E3).1 (Or.inr ⟨(hw _ (List.mem_of_getElem? (i := 46) rfl)), rfl, rfl⟩) (hw _ (List.mem_of_getElem? (i := 1) rfl)) (ty := (.object "java/lang/String")) (by decide) rfl rfl g0 ?_
  intro h4 W4
  refine Go.vret D rfl d6_30 (by decide) (by decide) ?_
  exact ⟨rfl, ((((Keep.refl _ _).ext E1).wr W2 (Or.inl (by simp))).ext E3).wr W4 (Or.inl (by simp)), (F2.ext E3).set2 hw W4, L3, rfl, K3.wr W4 (nlit (F2.ext E3).1 K3) (F2.ext E3).1 (hw _ (List.mem_of_getElem? (i := 1) rfl))⟩
theorem str_no {Z : State} {a0 : Array Value} {K : String} {n : Nat} (w1 : (Jvm.Cond.superclass "java/lang/String" "java/lang/Object").before a0 Z = true) (w2 : (Jvm.Cond.noSuperclass "java/lang/Object").before a0 Z = true) (wi : (Jvm.Cond.instantiable K n).before a0 Z = true) (h1 : "java/lang/String" ≠ K) (h2 : "java/lang/Object" ≠ K) : ∃ c t, Z.vm.findClass "java/lang/String" = some c ∧ Z.vm.findClass K = some t ∧ Z.vm.assignable c t = false := by
  obtain ⟨c, hc⟩ := found_sup w1
  obtain ⟨p, k, kp, q1, q2, q3, q4, q5, -, q7⟩ := Cond.superclass_spec hc w1
  obtain ⟨c', k', r1, r2, r3, -, -⟩ := Cond.noSuperclass_spec w2
  cases q1.symm.trans r1
  cases q3.symm.trans r2
  obtain ⟨t, kt, i1, i2, i3, i4⟩ := Cond.instantiable_spec wi
  have ne1 := ids_ne hc i1 h1
  have ne2 := ids_ne q1 i1 h2
  have g7 : kt.isInterface = false := (Bool.or_eq_false_iff.mp i4.1).1
  have sub : ∀ fuel, Z.vm.isSubclassAux fuel c t = false := fun fuel => by
    cases fuel with
    | zero => rfl
    | succ f =>
      simp [Vm.isSubclassAux, ne1, q2, q4]
      cases f with
      | zero => rfl
      | succ f => simp [Vm.isSubclassAux, ne2, q3, r3]
  refine ⟨c, t, hc, i1, ?_⟩
  show Z.vm.assignableAux (255 + 1) c t = false
  simp [Vm.assignableAux, ne1, q2, i2, q5, i3, g7, Vm.isSubclass, sub]

abbrev y9 : MethodName := ⟨"com/example/comb/comb/io/Topic", "equals", "(Ljava/lang/Object;)Z"⟩
theorem d9_0 : decode prog_19_method_4_code 0 = .ok (.aload_n 1, 1) := by decide +kernel
theorem d9_1 : decode prog_19_method_4_code 1 = .ok (.instanceof 18, 3) := by decide +kernel
theorem d9_4 : decode prog_19_method_4_code 4 = .ok (.ifCond .ne 5, 3) := by decide +kernel
theorem d9_7 : decode prog_19_method_4_code 7 = .ok (.iconst 0, 1) := by decide +kernel
theorem d9_8 : decode prog_19_method_4_code 8 = .ok (.ireturn, 1) := by decide +kernel
theorem d9_9 : decode prog_19_method_4_code 9 = .ok (.aload_n 1, 1) := by decide +kernel
theorem d9_10 : decode prog_19_method_4_code 10 = .ok (.checkcast 18, 3) := by decide +kernel
theorem d9_13 : decode prog_19_method_4_code 13 = .ok (.astore_n 2, 1) := by decide +kernel
theorem d9_14 : decode prog_19_method_4_code 14 = .ok (.aload_n 0, 1) := by decide +kernel
theorem d9_15 : decode prog_19_method_4_code 15 = .ok (.getfield 17, 3) := by decide +kernel
theorem d9_18 : decode prog_19_method_4_code 18 = .ok (.aload_n 2, 1) := by decide +kernel
theorem d9_19 : decode prog_19_method_4_code 19 = .ok (.getfield 17, 3) := by decide +kernel
theorem d9_22 : decode prog_19_method_4_code 22 = .ok (.invokevirtual 26, 3) := by decide +kernel
theorem d9_25 : decode prog_19_method_4_code 25 = .ok (.ifCond .eq 21, 3) := by decide +kernel
theorem d9_28 : decode prog_19_method_4_code 28 = .ok (.aload_n 0, 1) := by decide +kernel
theorem d9_29 : decode prog_19_method_4_code 29 = .ok (.getfield 24, 3) := by decide +kernel
theorem d9_32 : decode prog_19_method_4_code 32 = .ok (.aload_n 2, 1) := by decide +kernel
theorem d9_33 : decode prog_19_method_4_code 33 = .ok (.getfield 24, 3) := by decide +kernel
theorem d9_36 : decode prog_19_method_4_code 36 = .ok (.invokevirtual 26, 3) := by decide +kernel
theorem d9_39 : decode prog_19_method_4_code 39 = .ok (.ifCond .eq 7, 3) := by decide +kernel
theorem d9_42 : decode prog_19_method_4_code 42 = .ok (.iconst 1, 1) := by decide +kernel
theorem d9_43 : decode prog_19_method_4_code 43 = .ok (.goto 4, 3) := by decide +kernel
theorem d9_46 : decode prog_19_method_4_code 46 = .ok (.iconst 0, 1) := by decide +kernel
theorem d9_47 : decode prog_19_method_4_code 47 = .ok (.ireturn, 1) := by decide +kernel
theorem pd9 : parseMethodDescriptor "(Ljava/lang/Object;)Z" = some ⟨[(.object "java/lang/Object")], (some .boolean)⟩ := by decide +kernel
theorem pn9 : plainFor y9 = true := by first | exact plainFor_of_name (by first | (simp [plainName, overriddenIn]; done) | decide +kernel) | decide +kernel | rfl
set_option maxRecDepth 65536 in
set_option maxHeartbeats 40000000 in
theorem con_eq (l : Launch) (Z : State) (a0 : Array Value) (hw : ∀ d ∈ tables_1, d.before a0 Z = true) (h0 : Heap) (n0 : Nat) (σ : Sg) (t o s1 s2 u1 u2 : Addr) (cs1 cs2 ds1 ds2 : List Int32) (F : PB Z h0 t (.ref s1) (.ref s2)) (G : PB Z h0 o (.ref u1) (.ref u2)) (S1 : Str Z h0 s1 cs1) (S2 : Str Z h0 s2 cs2) (U1 : Str Z h0 u1 ds1) (U2 : Str Z h0 u2 ds2) (cz : Int32) (hcz : ¬ cz = 0) (O2 : Sta Z Z.heap "java/lang/String" "COMPACT_STRINGS" "Z" (.int cz)) :
    Con l Z y9 prog_19_method_4_code 3 ((some .boolean)) ({ frames := 2, cells := 0, slots := 0, locals := 40 } : Room) [] #[(.ref t), (.ref o)] σ h0 n0 (fun v h τ => h0 = h ∧ σ = τ ∧ ∃ r, v = some (.int r) ∧ ((r = 1 ∧ cs1 = ds1 ∧ cs2 = ds2) ∨ (r = 0 ∧ ¬ (cs1 = ds1 ∧ cs2 = ds2)))) := by
  refine Con.of_go pn9 (ls := #[.val (.ref t), .val (.ref o), .unset]) (fun m => by first | (simp [entryFrame, mkF, argsToLocals, Value.category]; done) | rfl) ?_
  intro κ D
  refine Go.aloadN D (pc' := 1) d9_0 rfl rfl rfl ?_
  refine Go.instY D (pc' := 4) (hw _ (List.mem_of_getElem? (i := 55) rfl)) d9_1 rfl (Ins.self G.1) ?_
  refine Go.ifc D (pc' := 9) (pc2 := 7) d9_4 (by decide) (by decide) rfl (fun _ => ?_) (fun (hc : (1 : Int32) = 0) => absurd hc (by decide))
  refine Go.aloadN D (pc' := 10) d9_9 rfl rfl rfl ?_
  refine Go.castY D (pc' := 13) (hw _ (List.mem_of_getElem? (i := 55) rfl)) d9_10 rfl (Ins.self G.1) ?_
  refine Go.astoreN D (pc' := 14) d9_13 rfl rfl (ls' := #[.val (.ref t), .val (.ref o), .val (.ref o)]) rfl ?_
  refine Go.aloadN D (pc' := 15) d9_14 rfl rfl rfl ?_
  refine Go.getF D (pc' := 18) (hw _ (List.mem_of_getElem? (i := 42) rfl)) d9_15 rfl F.2.1 ?_
  refine Go.aloadN D (pc' := 19) d9_18 rfl rfl rfl ?_
  refine Go.getF D (pc' := 22) (hw _ (List.mem_of_getElem? (i := 42) rfl)) d9_19 rfl G.2.1 ?_
  refine Go.callV D (argsL := [(.ref u1)]) (rest := []) (pc' := 25) (ce' := 0) (sl' := 0) (con_seq l Z a0 hw h0 n0 σ s1 u1 cs1 ds1 S1 U1 cz hcz O2) (hw _ (List.mem_of_getElem? (i := 57) rfl)) (hw _ (List.mem_of_getElem? (i := 58) rfl)) (hw _ (List.mem_of_getElem? (i := 60) rfl)) (hw _ (List.mem_of_getElem? (i := 59) rfl)) (hw _ (List.mem_of_getElem? (i := 12) rfl)) (hw _ (List.mem_of_getElem? (i := 61) rfl)) (nfS (hw _ (List.mem_of_getElem? (i := 60) rfl))) (by decide) S1.1.1 d9_22 rfl pd10 rfl rfl rfl (by decide) (W := 0) rfl (by decide) (by decide) (by decide) (by decide) (by decide) ?_
  intro v22 h22 σ22 q22
  obtain ⟨rfl, rfl, r1, rfl, hr1⟩ := q22
  show Go κ σ h0 0 0 25 #[.val (.ref t), .val (.ref o), .val (.ref o)] [(.int r1)]
  refine Go.ifc D (pc' := 46) (pc2 := 28) d9_25 (by decide) (by decide) rfl ?_ ?_
  · intro (hc25 : r1 = 0)
    refine Go.iconst D (pc' := 47) d9_46 rfl (v := (0 : Int32)) rfl ?_
    refine Go.zret D rfl rfl d9_47 (by decide) (by decide) ?_
    exact ⟨rfl, rfl, _, rfl, Or.inr ⟨rfl, fun q => hr1.elim (fun z => absurd hc25 (by rw [z.1]; decide)) (fun z => z.2 q.1)⟩⟩
  · intro (hc25 : ¬ r1 = 0)
    refine Go.aloadN D (pc' := 29) d9_28 rfl rfl rfl ?_
    refine Go.getF D (pc' := 32) (hw _ (List.mem_of_getElem? (i := 45) rfl)) d9_29 rfl F.2.2 ?_
    refine Go.aloadN D (pc' := 33) d9_32 rfl rfl rfl ?_
    refine Go.getF D (pc' := 36) (hw _ (List.mem_of_getElem? (i := 45) rfl)) d9_33 rfl G.2.2 ?_
    refine Go.callV D (argsL := [(.ref u2)]) (rest := []) (pc' := 39) (ce' := 0) (sl' := 0) (con_seq l Z a0 hw h0 n0 σ s2 u2 cs2 ds2 S2 U2 cz hcz O2) (hw _ (List.mem_of_getElem? (i := 57) rfl)) (hw _ (List.mem_of_getElem? (i := 58) rfl)) (hw _ (List.mem_of_getElem? (i := 60) rfl)) (hw _ (List.mem_of_getElem? (i := 59) rfl)) (hw _ (List.mem_of_getElem? (i := 12) rfl)) (hw _ (List.mem_of_getElem? (i := 61) rfl)) (nfS (hw _ (List.mem_of_getElem? (i := 60) rfl))) (by decide) S2.1.1 d9_36 rfl pd10 rfl rfl rfl (by decide) (W := 0) rfl (by decide) (by decide) (by decide) (by decide) (by decide) ?_
    intro v36 h36 σ36 q36
    obtain ⟨rfl, rfl, r2, rfl, hr2⟩ := q36
    show Go κ σ h0 0 0 39 #[.val (.ref t), .val (.ref o), .val (.ref o)] [(.int r2)]
    refine Go.ifc D (pc' := 46) (pc2 := 42) d9_39 (by decide) (by decide) rfl ?_ ?_
    · intro (hc39 : r2 = 0)
      refine Go.iconst D (pc' := 47) d9_46 rfl (v := (0 : Int32)) rfl ?_
      refine Go.zret D rfl rfl d9_47 (by decide) (by decide) ?_
      exact ⟨rfl, rfl, _, rfl, Or.inr ⟨rfl, fun q => hr2.elim (fun z => absurd hc39 (by rw [z.1]; decide)) (fun z => z.2 q.2)⟩⟩
    · intro (hc39 : ¬ r2 = 0)
      refine Go.iconst D (pc' := 43) d9_42 rfl (v := (1 : Int32)) rfl ?_
      refine Go.goto D (pc' := 47) d9_43 (by decide) (by decide) ?_
      refine Go.zret D rfl rfl d9_47 (by decide) (by decide) ?_
      exact ⟨rfl, rfl, _, rfl, Or.inl ⟨rfl, hr1.elim (fun z => z.2) (fun z => absurd z.1 hc25), hr2.elim (fun z => z.2) (fun z => absurd z.1 hc39)⟩⟩
set_option maxRecDepth 65536 in
set_option maxHeartbeats 40000000 in
theorem con_eqNull (l : Launch) (Z : State) (a0 : Array Value) (hw : ∀ d ∈ tables_1, d.before a0 Z = true) (h0 : Heap) (n0 : Nat) (σ : Sg) (t : Addr) :
    Con l Z y9 prog_19_method_4_code 3 ((some .boolean)) ({ frames := 0, cells := 0, slots := 0, locals := 0 } : Room) [] #[(.ref t), (.null)] σ h0 n0 (fun v h τ => h0 = h ∧ σ = τ ∧ v = some (.int 0)) := by
  refine Con.of_go pn9 (ls := #[.val (.ref t), .val (.null), .unset]) (fun m => by first | (simp [entryFrame, mkF, argsToLocals, Value.category]; done) | rfl) ?_
  intro κ D
  refine Go.aloadN D (pc' := 1) d9_0 rfl rfl rfl ?_
  refine Go.instNull D (pc' := 4) d9_1 rfl ?_
  refine Go.ifc D (pc' := 9) (pc2 := 7) d9_4 (by decide) (by decide) rfl (fun (hc : ¬ (0 : Int32) = 0) => absurd hc (by decide)) (fun _ => ?_)
  refine Go.iconst D (pc' := 8) d9_7 rfl (v := (0 : Int32)) rfl ?_
  refine Go.zret D rfl rfl d9_8 (by decide) (by decide) ?_
  exact ⟨rfl, rfl, rfl⟩
set_option maxRecDepth 65536 in
set_option maxHeartbeats 40000000 in
theorem con_eqStr (l : Launch) (Z : State) (a0 : Array Value) (hw : ∀ d ∈ tables_1, d.before a0 Z = true) (h0 : Heap) (n0 : Nat) (σ : Sg) (t o : Addr) (X : Exa Z h0 o "java/lang/String") :
    Con l Z y9 prog_19_method_4_code 3 ((some .boolean)) ({ frames := 0, cells := 0, slots := 0, locals := 0 } : Room) [] #[(.ref t), (.ref o)] σ h0 n0 (fun v h τ => h0 = h ∧ σ = τ ∧ v = some (.int 0)) := by
  refine Con.of_go pn9 (ls := #[.val (.ref t), .val (.ref o), .unset]) (fun m => by first | (simp [entryFrame, mkF, argsToLocals, Value.category]; done) | rfl) ?_
  intro κ D
  refine Go.aloadN D (pc' := 1) d9_0 rfl rfl rfl ?_
  refine Go.instN D (pc' := 4) (hw _ (List.mem_of_getElem? (i := 55) rfl)) d9_1 rfl (str_no (hw _ (List.mem_of_getElem? (i := 78) rfl)) (hw _ (List.mem_of_getElem? (i := 79) rfl)) (hw _ (List.mem_of_getElem? (i := 1) rfl)) (by decide) (by decide)) X ?_
  refine Go.ifc D (pc' := 9) (pc2 := 7) d9_4 (by decide) (by decide) rfl (fun (hc : ¬ (0 : Int32) = 0) => absurd hc (by decide)) (fun _ => ?_)
  refine Go.iconst D (pc' := 8) d9_7 rfl (v := (0 : Int32)) rfl ?_
  refine Go.zret D rfl rfl d9_8 (by decide) (by decide) ?_
  exact ⟨rfl, rfl, rfl⟩
abbrev y8 : MethodName := ⟨"com/example/comb/comb/io/TopicEqualsPinLaw", "same", "(II)Z"⟩
theorem d8_0 : decode method_4_code 0 = .ok (.iload_n 0, 1) := by decide +kernel
theorem d8_1 : decode method_4_code 1 = .ok (.invokestatic 7, 3) := by decide +kernel
theorem d8_4 : decode method_4_code 4 = .ok (.istore_n 2, 1) := by decide +kernel
theorem d8_5 : decode method_4_code 5 = .ok (.iload_n 2, 1) := by decide +kernel
theorem d8_6 : decode method_4_code 6 = .ok (.iload_n 1, 1) := by decide +kernel
theorem d8_7 : decode method_4_code 7 = .ok (.invokestatic 7, 3) := by decide +kernel
theorem d8_10 : decode method_4_code 10 = .ok (.if_icmp .eq 5, 3) := by decide +kernel
theorem d8_13 : decode method_4_code 13 = .ok (.iconst 0, 1) := by decide +kernel
theorem d8_14 : decode method_4_code 14 = .ok (.ireturn, 1) := by decide +kernel
theorem d8_15 : decode method_4_code 15 = .ok (.iload_n 2, 1) := by decide +kernel
theorem d8_16 : decode method_4_code 16 = .ok (.iconst 1, 1) := by decide +kernel
theorem d8_17 : decode method_4_code 17 = .ok (.if_icmp .lt 18, 3) := by decide +kernel
theorem d8_20 : decode method_4_code 20 = .ok (.iload_n 0, 1) := by decide +kernel
theorem d8_21 : decode method_4_code 21 = .ok (.sipush 255, 3) := by decide +kernel
theorem d8_24 : decode method_4_code 24 = .ok (.iand, 1) := by decide +kernel
theorem d8_25 : decode method_4_code 25 = .ok (.iload_n 1, 1) := by decide +kernel
theorem d8_26 : decode method_4_code 26 = .ok (.sipush 255, 3) := by decide +kernel
theorem d8_29 : decode method_4_code 29 = .ok (.iand, 1) := by decide +kernel
theorem d8_30 : decode method_4_code 30 = .ok (.if_icmp .eq 5, 3) := by decide +kernel
theorem d8_33 : decode method_4_code 33 = .ok (.iconst 0, 1) := by decide +kernel
theorem d8_34 : decode method_4_code 34 = .ok (.ireturn, 1) := by decide +kernel
theorem d8_35 : decode method_4_code 35 = .ok (.iload_n 2, 1) := by decide +kernel
theorem d8_36 : decode method_4_code 36 = .ok (.iconst 2, 1) := by decide +kernel
theorem d8_37 : decode method_4_code 37 = .ok (.if_icmp .lt 24, 3) := by decide +kernel
theorem d8_40 : decode method_4_code 40 = .ok (.iload_n 0, 1) := by decide +kernel
theorem d8_41 : decode method_4_code 41 = .ok (.bipush 8, 2) := by decide +kernel
theorem d8_43 : decode method_4_code 43 = .ok (.iushr, 1) := by decide +kernel
theorem d8_44 : decode method_4_code 44 = .ok (.sipush 255, 3) := by decide +kernel
theorem d8_47 : decode method_4_code 47 = .ok (.iand, 1) := by decide +kernel
theorem d8_48 : decode method_4_code 48 = .ok (.iload_n 1, 1) := by decide +kernel
theorem d8_49 : decode method_4_code 49 = .ok (.bipush 8, 2) := by decide +kernel
theorem d8_51 : decode method_4_code 51 = .ok (.iushr, 1) := by decide +kernel
theorem d8_52 : decode method_4_code 52 = .ok (.sipush 255, 3) := by decide +kernel
theorem d8_55 : decode method_4_code 55 = .ok (.iand, 1) := by decide +kernel
theorem d8_56 : decode method_4_code 56 = .ok (.if_icmp .eq 5, 3) := by decide +kernel
theorem d8_59 : decode method_4_code 59 = .ok (.iconst 0, 1) := by decide +kernel
theorem d8_60 : decode method_4_code 60 = .ok (.ireturn, 1) := by decide +kernel
theorem d8_61 : decode method_4_code 61 = .ok (.iconst 1, 1) := by decide +kernel
theorem d8_62 : decode method_4_code 62 = .ok (.ireturn, 1) := by decide +kernel
theorem pd8 : parseMethodDescriptor "(II)Z" = some ⟨[.int, .int], (some .boolean)⟩ := by decide +kernel
theorem pn8 : plainFor y8 = true := by first | exact plainFor_of_name (by first | (simp [plainName, overriddenIn]; done) | decide +kernel) | decide +kernel | rfl
set_option maxRecDepth 65536 in
set_option maxHeartbeats 40000000 in
theorem con_same (l : Launch) (Z : State) (a0 : Array Value) (hw : ∀ d ∈ tables_1, d.before a0 Z = true) (h0 : Heap) (n0 : Nat) (σ : Sg) (x z : Int32) :
    Con l Z y8 method_4_code 3 ((some .boolean)) ({ frames := 1, cells := 0, slots := 0, locals := 14 } : Room) [] #[(.int x), (.int z)] σ h0 n0 (fun v h τ => h0 = h ∧ σ = τ ∧ ∃ r, v = some (.int r) ∧ ((r = 1 ∧ chs x = chs z) ∨ (r = 0 ∧ ¬ chs x = chs z))) := by
  refine Con.of_go pn8 (ls := #[.val (.int x), .val (.int z), .unset]) (fun m => by first | (simp [entryFrame, mkF, argsToLocals, Value.category]; done) | rfl) ?_
  intro κ D
  refine Go.iloadN D (pc' := 1) d8_0 rfl rfl ?_
  refine Go.callS D (argsL := [(.int x)]) (rest := []) (pc' := 4) (ce' := 0) (sl' := 0) (con_len l Z a0 hw h0 n0 σ x) (hw _ (List.mem_of_getElem? (i := 7) rfl)) (hw _ (List.mem_of_getElem? (i := 8) rfl)) (hw _ (List.mem_of_getElem? (i := 5) rfl)) (hw _ (List.mem_of_getElem? (i := 9) rfl)) (by decide) d8_1 rfl pd2 rfl rfl rfl (by decide) (W := 0) rfl (by decide) (by decide) (by decide) (by decide) (by decide) ?_
  intro v1 h1 σ1 q1
  obtain ⟨rfl, rfl, rfl⟩ := q1
  show Go κ σ h0 0 0 4 #[.val (.int x), .val (.int z), .unset] [(.int (lenV x))]
  refine Go.istoreN D (pc' := 5) d8_4 rfl (ls' := #[.val (.int x), .val (.int z), .val (.int (lenV x))]) rfl ?_
  refine Go.iloadN D (pc' := 6) d8_5 rfl rfl ?_
  refine Go.iloadN D (pc' := 7) d8_6 rfl rfl ?_
  refine Go.callS D (argsL := [(.int z)]) (rest := [(.int (lenV x))]) (pc' := 10) (ce' := 0) (sl' := 0) (con_len l Z a0 hw h0 n0 σ z) (hw _ (List.mem_of_getElem? (i := 7) rfl)) (hw _ (List.mem_of_getElem? (i := 8) rfl)) (hw _ (List.mem_of_getElem? (i := 5) rfl)) (hw _ (List.mem_of_getElem? (i := 9) rfl)) (by decide) d8_7 rfl pd2 rfl rfl rfl (by decide) (W := 1) rfl (by decide) (by decide) (by decide) (by decide) (by decide) ?_
  intro v7 h7 σ7 q7
  obtain ⟨rfl, rfl, rfl⟩ := q7
  show Go κ σ h0 0 0 10 #[.val (.int x), .val (.int z), .val (.int (lenV x))] [(.int (lenV z)), (.int (lenV x))]
  refine Go.icmp D (pc' := 15) (pc2 := 13) d8_10 (by decide) (by decide) rfl ?_ ?_
  · intro (hc10 : (lenV x) = (lenV z))
    refine Go.iloadN D (pc' := 16) d8_15 rfl rfl ?_
    refine Go.iconst D (pc' := 17) d8_16 rfl (v := (1 : Int32)) rfl ?_
    refine Go.icmp D (pc' := 35) (pc2 := 20) d8_17 (by decide) (by decide) rfl ?_ ?_
    · intro (hc17 : (lenV x) < (1 : Int32))
      refine Go.iloadN D (pc' := 36) d8_35 rfl rfl ?_
      refine Go.iconst D (pc' := 37) d8_36 rfl (v := (2 : Int32)) rfl ?_
      refine Go.icmp D (pc' := 61) (pc2 := 40) d8_37 (by decide) (by decide) rfl ?_ ?_
      · intro (hc37 : (lenV x) < (2 : Int32))
        refine Go.iconst D (pc' := 62) d8_61 rfl (v := (1 : Int32)) rfl ?_
        refine Go.zret D rfl rfl d8_62 (by decide) (by decide) ?_
        refine ⟨rfl, rfl, _, rfl, Or.inl ⟨rfl, ?_⟩⟩
        rcases len_cases x with a | a | a <;> rcases len_cases z with b | b | b <;> simp [chs, a, b, Int32.lt_iff_toInt_lt, c0V, c1V] at hc10 hc17 hc37 ⊢ <;> simp_all
      · intro (hc37 : ¬ (lenV x) < (2 : Int32))
        refine Go.iloadN D (pc' := 41) d8_40 rfl rfl ?_
        refine Go.bipush D (pc' := 43) d8_41 rfl (v := (8 : Int32)) rfl ?_
        refine Go.iushr D (pc' := 44) d8_43 rfl  ?_
        refine Go.sipush D (pc' := 47) d8_44 rfl (v := (255 : Int32)) rfl ?_
        refine Go.iand D (pc' := 48) d8_47 rfl  ?_
        refine Go.iloadN D (pc' := 49) d8_48 rfl rfl ?_
        refine Go.bipush D (pc' := 51) d8_49 rfl (v := (8 : Int32)) rfl ?_
        refine Go.iushr D (pc' := 52) d8_51 rfl  ?_
        refine Go.sipush D (pc' := 55) d8_52 rfl (v := (255 : Int32)) rfl ?_
        refine Go.iand D (pc' := 56) d8_55 rfl  ?_
        refine Go.icmp D (pc' := 61) (pc2 := 59) d8_56 (by decide) (by decide) rfl ?_ ?_
        · intro (hc56 : ((ushr x (8 : Int32)) &&& (255 : Int32)) = ((ushr z (8 : Int32)) &&& (255 : Int32)))
          refine Go.iconst D (pc' := 62) d8_61 rfl (v := (1 : Int32)) rfl ?_
          refine Go.zret D rfl rfl d8_62 (by decide) (by decide) ?_
          refine ⟨rfl, rfl, _, rfl, Or.inl ⟨rfl, ?_⟩⟩
          rcases len_cases x with a | a | a <;> rcases len_cases z with b | b | b <;> simp [chs, a, b, Int32.lt_iff_toInt_lt, c0V, c1V] at hc10 hc17 hc37 hc56 ⊢ <;> simp_all
        · intro (hc56 : ¬ ((ushr x (8 : Int32)) &&& (255 : Int32)) = ((ushr z (8 : Int32)) &&& (255 : Int32)))
          refine Go.iconst D (pc' := 60) d8_59 rfl (v := (0 : Int32)) rfl ?_
          refine Go.zret D rfl rfl d8_60 (by decide) (by decide) ?_
          refine ⟨rfl, rfl, _, rfl, Or.inr ⟨rfl, ?_⟩⟩
          rcases len_cases x with a | a | a <;> rcases len_cases z with b | b | b <;> simp [chs, a, b, Int32.lt_iff_toInt_lt, c0V, c1V] at hc10 hc17 hc37 hc56 ⊢ <;> simp_all
    · intro (hc17 : ¬ (lenV x) < (1 : Int32))
      refine Go.iloadN D (pc' := 21) d8_20 rfl rfl ?_
      refine Go.sipush D (pc' := 24) d8_21 rfl (v := (255 : Int32)) rfl ?_
      refine Go.iand D (pc' := 25) d8_24 rfl  ?_
      refine Go.iloadN D (pc' := 26) d8_25 rfl rfl ?_
      refine Go.sipush D (pc' := 29) d8_26 rfl (v := (255 : Int32)) rfl ?_
      refine Go.iand D (pc' := 30) d8_29 rfl  ?_
      refine Go.icmp D (pc' := 35) (pc2 := 33) d8_30 (by decide) (by decide) rfl ?_ ?_
      · intro (hc30 : (x &&& (255 : Int32)) = (z &&& (255 : Int32)))
        refine Go.iloadN D (pc' := 36) d8_35 rfl rfl ?_
        refine Go.iconst D (pc' := 37) d8_36 rfl (v := (2 : Int32)) rfl ?_
        refine Go.icmp D (pc' := 61) (pc2 := 40) d8_37 (by decide) (by decide) rfl ?_ ?_
        · intro (hc37 : (lenV x) < (2 : Int32))
          refine Go.iconst D (pc' := 62) d8_61 rfl (v := (1 : Int32)) rfl ?_
          refine Go.zret D rfl rfl d8_62 (by decide) (by decide) ?_
          refine ⟨rfl, rfl, _, rfl, Or.inl ⟨rfl, ?_⟩⟩
          rcases len_cases x with a | a | a <;> rcases len_cases z with b | b | b <;> simp [chs, a, b, Int32.lt_iff_toInt_lt, c0V, c1V] at hc10 hc17 hc30 hc37 ⊢ <;> simp_all
        · intro (hc37 : ¬ (lenV x) < (2 : Int32))
          refine Go.iloadN D (pc' := 41) d8_40 rfl rfl ?_
          refine Go.bipush D (pc' := 43) d8_41 rfl (v := (8 : Int32)) rfl ?_
          refine Go.iushr D (pc' := 44) d8_43 rfl  ?_
          refine Go.sipush D (pc' := 47) d8_44 rfl (v := (255 : Int32)) rfl ?_
          refine Go.iand D (pc' := 48) d8_47 rfl  ?_
          refine Go.iloadN D (pc' := 49) d8_48 rfl rfl ?_
          refine Go.bipush D (pc' := 51) d8_49 rfl (v := (8 : Int32)) rfl ?_
          refine Go.iushr D (pc' := 52) d8_51 rfl  ?_
          refine Go.sipush D (pc' := 55) d8_52 rfl (v := (255 : Int32)) rfl ?_
          refine Go.iand D (pc' := 56) d8_55 rfl  ?_
          refine Go.icmp D (pc' := 61) (pc2 := 59) d8_56 (by decide) (by decide) rfl ?_ ?_
          · intro (hc56 : ((ushr x (8 : Int32)) &&& (255 : Int32)) = ((ushr z (8 : Int32)) &&& (255 : Int32)))
            refine Go.iconst D (pc' := 62) d8_61 rfl (v := (1 : Int32)) rfl ?_
            refine Go.zret D rfl rfl d8_62 (by decide) (by decide) ?_
            refine ⟨rfl, rfl, _, rfl, Or.inl ⟨rfl, ?_⟩⟩
            rcases len_cases x with a | a | a <;> rcases len_cases z with b | b | b <;> simp [chs, a, b, Int32.lt_iff_toInt_lt, c0V, c1V] at hc10 hc17 hc30 hc37 hc56 ⊢ <;> simp_all
          · intro (hc56 : ¬ ((ushr x (8 : Int32)) &&& (255 : Int32)) = ((ushr z (8 : Int32)) &&& (255 : Int32)))
            refine Go.iconst D (pc' := 60) d8_59 rfl (v := (0 : Int32)) rfl ?_
            refine Go.zret D rfl rfl d8_60 (by decide) (by decide) ?_
            refine ⟨rfl, rfl, _, rfl, Or.inr ⟨rfl, ?_⟩⟩
            rcases len_cases x with a | a | a <;> rcases len_cases z with b | b | b <;> simp [chs, a, b, Int32.lt_iff_toInt_lt, c0V, c1V] at hc10 hc17 hc30 hc37 hc56 ⊢ <;> simp_all
      · intro (hc30 : ¬ (x &&& (255 : Int32)) = (z &&& (255 : Int32)))
        refine Go.iconst D (pc' := 34) d8_33 rfl (v := (0 : Int32)) rfl ?_
        refine Go.zret D rfl rfl d8_34 (by decide) (by decide) ?_
        refine ⟨rfl, rfl, _, rfl, Or.inr ⟨rfl, ?_⟩⟩
        rcases len_cases x with a | a | a <;> rcases len_cases z with b | b | b <;> simp [chs, a, b, Int32.lt_iff_toInt_lt, c0V, c1V] at hc10 hc17 hc30 ⊢ <;> simp_all
  · intro (hc10 : ¬ (lenV x) = (lenV z))
    refine Go.iconst D (pc' := 14) d8_13 rfl (v := (0 : Int32)) rfl ?_
    refine Go.zret D rfl rfl d8_14 (by decide) (by decide) ?_
    refine ⟨rfl, rfl, _, rfl, Or.inr ⟨rfl, ?_⟩⟩
    rcases len_cases x with a | a | a <;> rcases len_cases z with b | b | b <;> simp [chs, a, b, Int32.lt_iff_toInt_lt, c0V, c1V] at hc10 ⊢ <;> simp_all
theorem pd0 : parseMethodDescriptor "(IIIII)Z" = some ⟨[.int, .int, .int, .int, .int], (some .boolean)⟩ := by decide +kernel
theorem pn0 : plainFor x = true := by first | exact plainFor_of_name (by first | (simp [plainName, overriddenIn]; done) | decide +kernel) | decide +kernel | rfl
set_option maxRecDepth 65536 in
set_option maxHeartbeats 40000000 in
theorem con_law (l : Launch) (Z : State) (a0 : Array Value) (hw : ∀ d ∈ tables_1, d.before a0 Z = true) (h0 : Heap) (n0 : Nat) (Z0 : n0 ≤ h0.size) (hcw : Jvm.Lit.compactW.before a0 Z = true) (hh : Jvm.Lit.constHeld Z "java/lang/String" 7) (cz : Int32) (hcz : ¬ cz = 0) (O2 : Sta Z Z.heap "java/lang/String" "COMPACT_STRINGS" "Z" (.int cz)) (hh1 : Jvm.Lit.constHeld Z "com/example/comb/comb/io/Topic" 7) (hh2 : Jvm.Lit.constHeld Z "com/example/comb/comb/io/Topic" 22) (a b c d mode : Int32) :
    Con l Z x code maxLocals ret room_1 tables_1 #[(.int a), (.int b), (.int c), (.int d), (.int mode)] (some []) h0 n0 (fun v h τ => v = some (.int 1)) := by
  refine Con.of_go pn0 (ls := #[.val (.int a), .val (.int b), .val (.int c), .val (.int d), .val (.int mode), .unset, .unset, .unset, .unset, .unset, .unset]) (fun m => by first | (simp [entryFrame, mkF, argsToLocals, Value.category, maxLocals]; done) | rfl) ?_
  intro κ D
  have J70 : ∀ u w : Int32, Go κ (some []) h0 0 0 70 #[.val (.int a), .val (.int b), .val (.int c), .val (.int d), .val (.int mode), .val (.int u), .val (.int w), .unset, .unset, .unset, .unset] [] := by
    intro u w
    refine Go.newO D (pc' := 73) (ce' := 1) (sl' := 2) (hw _ (List.mem_of_getElem? (i := 0) rfl)) (hw _ (List.mem_of_getElem? (i := 1) rfl)) (hw _ (List.mem_of_getElem? (i := 2) rfl)) at_70 rfl rfl rfl (by decide) (by decide) ?_
    intro h70 t gt E70 X70 D70
    have P70 : PB Z h70 t .null .null := ⟨X70, D70 (Or.inr (hw _ (List.mem_of_getElem? (i := 43) rfl))) (ty := .object "java/lang/String") (by decide), D70 (Or.inr (hw _ (List.mem_of_getElem? (i := 46) rfl))) (ty := .object "java/lang/String") (by decide)⟩
    have z70 : n0 ≤ h70.size := Nat.le_trans Z0 E70.1
    have ggt : n0 ≤ t := by omega
    have KK70 := (CsOk.nil (CS := CS) (Z := Z) (h := h0)).ext E70
    refine Go.dup D (pc' := 74) at_73 rfl rfl ?_
    refine Go.iloadN D (pc' := 75) at_74 rfl rfl ?_
    refine Go.callS D (argsL := [(.int a)]) (rest := [(.ref t), (.ref t)]) (pc' := 78) (ce' := 7) (sl' := 82) (con_mk l Z a0 hw h70 n0 a z70 hcw hh cz hcz O2 [] KK70) (hw _ (List.mem_of_getElem? (i := 3) rfl)) (hw _ (List.mem_of_getElem? (i := 4) rfl)) (hw _ (List.mem_of_getElem? (i := 5) rfl)) (hw _ (List.mem_of_getElem? (i := 6) rfl)) (by decide) at_75 rfl pd1 rfl rfl rfl (by decide) (W := 2) rfl (by decide) (by decide) (by decide) (by decide) (by decide) ?_
    intro v75 h75 σ75 q75
    obtain ⟨s1, L75, rfl, gs1, e75, Ss1, rfl, K75⟩ := q75
    show Go κ (some L75) h75 7 82 78 #[.val (.int a), .val (.int b), .val (.int c), .val (.int d), .val (.int mode), .val (.int u), .val (.int w), .unset, .unset, .unset, .unset] [(.ref s1), (.ref t), (.ref t)]
    have P70 := P70.ext e75
    have z75 : n0 ≤ h75.size := Nat.le_trans z70 e75.1
    refine Go.iloadN D (pc' := 79) at_78 rfl rfl ?_
    refine Go.callS D (argsL := [(.int b)]) (rest := [(.ref s1), (.ref t), (.ref t)]) (pc' := 82) (ce' := 13) (sl' := 162) (con_mk l Z a0 hw h75 n0 b z75 hcw hh cz hcz O2 L75 K75) (hw _ (List.mem_of_getElem? (i := 3) rfl)) (hw _ (List.mem_of_getElem? (i := 4) rfl)) (hw _ (List.mem_of_getElem? (i := 5) rfl)) (hw _ (List.mem_of_getElem? (i := 6) rfl)) (by decide) at_79 rfl pd1 rfl rfl rfl (by decide) (W := 3) rfl (by decide) (by decide) (by decide) (by decide) (by decide) ?_
    intro v79 h79 σ79 q79
    obtain ⟨s2, L79, rfl, gs2, e79, Ss2, rfl, K79⟩ := q79
    show Go κ (some L79) h79 13 162 82 #[.val (.int a), .val (.int b), .val (.int c), .val (.int d), .val (.int mode), .val (.int u), .val (.int w), .unset, .unset, .unset, .unset] [(.ref s2), (.ref s1), (.ref t), (.ref t)]
    have P70 := P70.ext e79
    have Ss1 := Ss1.ext e79
    have z79 : n0 ≤ h79.size := Nat.le_trans z75 e79.1
    refine Go.callI D (argsL := [(.ref s1), (.ref s2)]) (rest := [(.ref t)]) (pc' := 85) (ce' := 17) (sl' := 194) (con_ctor l Z a0 hw h79 n0 t s1 s2 ggt P70 Ss1.1.1 Ss2.1.1 hcw hh1 hh2 L79 K79) rfl (hw _ (List.mem_of_getElem? (i := 32) rfl)) (hw _ (List.mem_of_getElem? (i := 33) rfl)) (hw _ (List.mem_of_getElem? (i := 2) rfl)) (hw _ (List.mem_of_getElem? (i := 34) rfl)) (by decide) at_82 rfl pd6 rfl rfl rfl (by decide) (W := 1) rfl (by decide) (by decide) (by decide) (by decide) (by decide) ?_
    intro v82 h82 σ82 q82
    obtain ⟨rfl, k82, P82, L82, rfl, K82⟩ := q82
    show Go κ (some L82) h82 17 194 85 #[.val (.int a), .val (.int b), .val (.int c), .val (.int d), .val (.int mode), .val (.int u), .val (.int w), .unset, .unset, .unset, .unset] [(.ref t)]
    have Ss1 := Ss1.keep k82 (Exa.ne Ss1.1.1 P70.1 (by decide)) P70.1 (hw _ (List.mem_of_getElem? (i := 1) rfl))
    have Ss2 := Ss2.keep k82 (Exa.ne Ss2.1.1 P70.1 (by decide)) P70.1 (hw _ (List.mem_of_getElem? (i := 1) rfl))
    have z82 : n0 ≤ h82.size := Nat.le_trans z79 k82.1
    refine Go.astore D (pc' := 87) at_85 rfl rfl (ls' := #[.val (.int a), .val (.int b), .val (.int c), .val (.int d), .val (.int mode), .val (.int u), .val (.int w), .val (.ref t), .unset, .unset, .unset]) rfl ?_
    refine Go.iload D (pc' := 89) at_87 rfl rfl ?_
    refine Go.iconst D (pc' := 90) at_89 rfl (v := (3 : Int32)) rfl ?_
    refine Go.iand D (pc' := 91) at_90 rfl  ?_
    refine Go.istore D (pc' := 93) at_91 rfl (ls' := #[.val (.int a), .val (.int b), .val (.int c), .val (.int d), .val (.int mode), .val (.int u), .val (.int w), .val (.ref t), .val (.int (mode &&& (3 : Int32))), .unset, .unset]) rfl ?_
    refine Go.iload D (pc' := 95) at_93 rfl rfl ?_
    refine Go.ifc D (pc' := 145) (pc2 := 98) at_95 (by decide) (by decide) rfl ?_ ?_
    · intro (hc95 : ¬ (mode &&& (3 : Int32)) = 0)
      refine Go.iload D (pc' := 147) at_145 rfl rfl ?_
      refine Go.iconst D (pc' := 148) at_147 rfl (v := (1 : Int32)) rfl ?_
      refine Go.icmp D (pc' := 160) (pc2 := 151) at_148 (by decide) (by decide) rfl ?_ ?_
      · intro (hc148 : ¬ (mode &&& (3 : Int32)) = (1 : Int32))
        refine Go.iload D (pc' := 162) at_160 rfl rfl ?_
        refine Go.iconst D (pc' := 163) at_162 rfl (v := (2 : Int32)) rfl ?_
        refine Go.icmp D (pc' := 178) (pc2 := 166) at_163 (by decide) (by decide) rfl ?_ ?_
        · intro (hc163 : ¬ (mode &&& (3 : Int32)) = (2 : Int32))
          refine Go.aload D (pc' := 180) at_178 rfl rfl rfl ?_
          refine Go.astore D (pc' := 182) at_180 rfl rfl (ls' := #[.val (.int a), .val (.int b), .val (.int c), .val (.int d), .val (.int mode), .val (.int u), .val (.int w), .val (.ref t), .val (.int (mode &&& (3 : Int32))), .val (.ref t), .unset]) rfl ?_
          refine Go.iconst D (pc' := 183) at_182 rfl (v := (1 : Int32)) rfl ?_
          refine Go.istore D (pc' := 185) at_183 rfl (ls' := #[.val (.int a), .val (.int b), .val (.int c), .val (.int d), .val (.int mode), .val (.int u), .val (.int w), .val (.ref t), .val (.int (mode &&& (3 : Int32))), .val (.ref t), .val (.int (1 : Int32))]) rfl ?_
          refine Go.aload D (pc' := 187) at_185 rfl rfl rfl ?_
          refine Go.aload D (pc' := 189) at_187 rfl rfl rfl ?_
          refine Go.callV D (argsL := [(.ref t)]) (rest := []) (pc' := 192) (ce' := 17) (sl' := 194) (con_eq l Z a0 hw h82 n0 (some L82) t t s1 s2 s1 s2 _ _ _ _ P82 P82 Ss1 Ss2 Ss1 Ss2 cz hcz O2) (hw _ (List.mem_of_getElem? (i := 50) rfl)) (hw _ (List.mem_of_getElem? (i := 51) rfl)) (hw _ (List.mem_of_getElem? (i := 53) rfl)) (hw _ (List.mem_of_getElem? (i := 52) rfl)) (hw _ (List.mem_of_getElem? (i := 2) rfl)) (hw _ (List.mem_of_getElem? (i := 54) rfl)) (nfS (hw _ (List.mem_of_getElem? (i := 53) rfl))) (by decide) P82.1 at_189 rfl pd9 rfl rfl rfl (by decide) (W := 0) rfl (by decide) (by decide) (by decide) (by decide) (by decide) ?_
          intro v189 h189 σ189 q189
          obtain ⟨rfl, rfl, r, rfl, hr⟩ := q189
          obtain rfl : r = 1 := hr.elim (fun z => z.1) (fun z => absurd ⟨rfl, rfl⟩ z.2)
          show Go κ (some L82) h82 17 194 192 #[.val (.int a), .val (.int b), .val (.int c), .val (.int d), .val (.int mode), .val (.int u), .val (.int w), .val (.ref t), .val (.int (mode &&& (3 : Int32))), .val (.ref t), .val (.int (1 : Int32))] [(.int (1 : Int32))]
          refine Go.iload D (pc' := 194) at_192 rfl rfl ?_
          refine Go.icmp D (pc' := 201) (pc2 := 197) at_194 (by decide) (by decide) rfl (fun (hc : ¬ (1 : Int32) = (1 : Int32)) => absurd hc (by decide)) (fun _ => ?_)
          refine Go.iconst D (pc' := 198) at_197 rfl (v := (1 : Int32)) rfl ?_
          refine Go.goto D (pc' := 202) at_198 (by decide) (by decide) ?_
          refine Go.zret D rfl rfl at_202 (by decide) (by decide) ?_
          exact rfl
        · intro (hc163 : (mode &&& (3 : Int32)) = (2 : Int32))
          refine Go.iloadN D (pc' := 167) at_166 rfl rfl ?_
          refine Go.callS D (argsL := [(.int a)]) (rest := []) (pc' := 170) (ce' := 23) (sl' := 274) (con_mk l Z a0 hw h82 n0 a z82 hcw hh cz hcz O2 L82 K82) (hw _ (List.mem_of_getElem? (i := 3) rfl)) (hw _ (List.mem_of_getElem? (i := 4) rfl)) (hw _ (List.mem_of_getElem? (i := 5) rfl)) (hw _ (List.mem_of_getElem? (i := 6) rfl)) (by decide) at_167 rfl pd1 rfl rfl rfl (by decide) (W := 0) rfl (by decide) (by decide) (by decide) (by decide) (by decide) ?_
          intro v167 h167 σ167 q167
          obtain ⟨s3, L167, rfl, gs3, e167, Ss3, rfl, K167⟩ := q167
          show Go κ (some L167) h167 23 274 170 #[.val (.int a), .val (.int b), .val (.int c), .val (.int d), .val (.int mode), .val (.int u), .val (.int w), .val (.ref t), .val (.int (mode &&& (3 : Int32))), .unset, .unset] [(.ref s3)]
          have Ss1 := Ss1.ext e167
          have Ss2 := Ss2.ext e167
          have P82 := P82.ext e167
          have z167 : n0 ≤ h167.size := Nat.le_trans z82 e167.1
          refine Go.astore D (pc' := 172) at_170 rfl rfl (ls' := #[.val (.int a), .val (.int b), .val (.int c), .val (.int d), .val (.int mode), .val (.int u), .val (.int w), .val (.ref t), .val (.int (mode &&& (3 : Int32))), .val (.ref s3), .unset]) rfl ?_
          refine Go.iconst D (pc' := 173) at_172 rfl (v := (0 : Int32)) rfl ?_
          refine Go.istore D (pc' := 175) at_173 rfl (ls' := #[.val (.int a), .val (.int b), .val (.int c), .val (.int d), .val (.int mode), .val (.int u), .val (.int w), .val (.ref t), .val (.int (mode &&& (3 : Int32))), .val (.ref s3), .val (.int (0 : Int32))]) rfl ?_
          refine Go.goto D (pc' := 185) at_175 (by decide) (by decide) ?_
          refine Go.aload D (pc' := 187) at_185 rfl rfl rfl ?_
          refine Go.aload D (pc' := 189) at_187 rfl rfl rfl ?_
          refine Go.callV D (argsL := [(.ref s3)]) (rest := []) (pc' := 192) (ce' := 23) (sl' := 274) (con_eqStr l Z a0 hw h167 n0 (some L167) t s3 Ss3.1.1) (hw _ (List.mem_of_getElem? (i := 50) rfl)) (hw _ (List.mem_of_getElem? (i := 51) rfl)) (hw _ (List.mem_of_getElem? (i := 53) rfl)) (hw _ (List.mem_of_getElem? (i := 52) rfl)) (hw _ (List.mem_of_getElem? (i := 2) rfl)) (hw _ (List.mem_of_getElem? (i := 54) rfl)) (nfS (hw _ (List.mem_of_getElem? (i := 53) rfl))) (by decide) P82.1 at_189 rfl pd9 rfl rfl rfl (by decide) (W := 0) rfl (by decide) (by decide) (by decide) (by decide) (by decide) ?_
          intro v189 h189 σ189 q189
          obtain ⟨rfl, rfl, rfl⟩ := q189
          show Go κ (some L167) h167 23 274 192 #[.val (.int a), .val (.int b), .val (.int c), .val (.int d), .val (.int mode), .val (.int u), .val (.int w), .val (.ref t), .val (.int (mode &&& (3 : Int32))), .val (.ref s3), .val (.int (0 : Int32))] [(.int (0 : Int32))]
          refine Go.iload D (pc' := 194) at_192 rfl rfl ?_
          refine Go.icmp D (pc' := 201) (pc2 := 197) at_194 (by decide) (by decide) rfl (fun (hc : ¬ (0 : Int32) = (0 : Int32)) => absurd hc (by decide)) (fun _ => ?_)
          refine Go.iconst D (pc' := 198) at_197 rfl (v := (1 : Int32)) rfl ?_
          refine Go.goto D (pc' := 202) at_198 (by decide) (by decide) ?_
          refine Go.zret D rfl rfl at_202 (by decide) (by decide) ?_
          exact rfl
      · intro (hc148 : (mode &&& (3 : Int32)) = (1 : Int32))
        refine Go.aconstNull D (pc' := 152) at_151 rfl  ?_
        refine Go.astore D (pc' := 154) at_152 rfl rfl (ls' := #[.val (.int a), .val (.int b), .val (.int c), .val (.int d), .val (.int mode), .val (.int u), .val (.int w), .val (.ref t), .val (.int (mode &&& (3 : Int32))), .val (.null), .unset]) rfl ?_
        refine Go.iconst D (pc' := 155) at_154 rfl (v := (0 : Int32)) rfl ?_
        refine Go.istore D (pc' := 157) at_155 rfl (ls' := #[.val (.int a), .val (.int b), .val (.int c), .val (.int d), .val (.int mode), .val (.int u), .val (.int w), .val (.ref t), .val (.int (mode &&& (3 : Int32))), .val (.null), .val (.int (0 : Int32))]) rfl ?_
        refine Go.goto D (pc' := 185) at_157 (by decide) (by decide) ?_
        refine Go.aload D (pc' := 187) at_185 rfl rfl rfl ?_
        refine Go.aload D (pc' := 189) at_187 rfl rfl rfl ?_
        refine Go.callV D (argsL := [(.null)]) (rest := []) (pc' := 192) (ce' := 17) (sl' := 194) (con_eqNull l Z a0 hw h82 n0 (some L82) t) (hw _ (List.mem_of_getElem? (i := 50) rfl)) (hw _ (List.mem_of_getElem? (i := 51) rfl)) (hw _ (List.mem_of_getElem? (i := 53) rfl)) (hw _ (List.mem_of_getElem? (i := 52) rfl)) (hw _ (List.mem_of_getElem? (i := 2) rfl)) (hw _ (List.mem_of_getElem? (i := 54) rfl)) (nfS (hw _ (List.mem_of_getElem? (i := 53) rfl))) (by decide) P82.1 at_189 rfl pd9 rfl rfl rfl (by decide) (W := 0) rfl (by decide) (by decide) (by decide) (by decide) (by decide) ?_
        intro v189 h189 σ189 q189
        obtain ⟨rfl, rfl, rfl⟩ := q189
        show Go κ (some L82) h82 17 194 192 #[.val (.int a), .val (.int b), .val (.int c), .val (.int d), .val (.int mode), .val (.int u), .val (.int w), .val (.ref t), .val (.int (mode &&& (3 : Int32))), .val (.null), .val (.int (0 : Int32))] [(.int (0 : Int32))]
        refine Go.iload D (pc' := 194) at_192 rfl rfl ?_
        refine Go.icmp D (pc' := 201) (pc2 := 197) at_194 (by decide) (by decide) rfl (fun (hc : ¬ (0 : Int32) = (0 : Int32)) => absurd hc (by decide)) (fun _ => ?_)
        refine Go.iconst D (pc' := 198) at_197 rfl (v := (1 : Int32)) rfl ?_
        refine Go.goto D (pc' := 202) at_198 (by decide) (by decide) ?_
        refine Go.zret D rfl rfl at_202 (by decide) (by decide) ?_
        exact rfl
    · intro (hc95 : (mode &&& (3 : Int32)) = 0)
      refine Go.newO D (pc' := 101) (ce' := 18) (sl' := 196) (hw _ (List.mem_of_getElem? (i := 0) rfl)) (hw _ (List.mem_of_getElem? (i := 1) rfl)) (hw _ (List.mem_of_getElem? (i := 2) rfl)) at_98 rfl rfl rfl (by decide) (by decide) ?_
      intro h98 o go E98 X98 D98
      have P98 : PB Z h98 o .null .null := ⟨X98, D98 (Or.inr (hw _ (List.mem_of_getElem? (i := 43) rfl))) (ty := .object "java/lang/String") (by decide), D98 (Or.inr (hw _ (List.mem_of_getElem? (i := 46) rfl))) (ty := .object "java/lang/String") (by decide)⟩
      have Ss1 := Ss1.ext E98
      have Ss2 := Ss2.ext E98
      have P82 := P82.ext E98
      have z98 : n0 ≤ h98.size := Nat.le_trans z82 E98.1
      have ggo : n0 ≤ o := by omega
      have KK98 := K82.ext E98
      refine Go.dup D (pc' := 102) at_101 rfl rfl ?_
      refine Go.iload D (pc' := 104) at_102 rfl rfl ?_
      refine Go.callS D (argsL := [(.int u)]) (rest := [(.ref o), (.ref o)]) (pc' := 107) (ce' := 24) (sl' := 276) (con_mk l Z a0 hw h98 n0 u z98 hcw hh cz hcz O2 L82 KK98) (hw _ (List.mem_of_getElem? (i := 3) rfl)) (hw _ (List.mem_of_getElem? (i := 4) rfl)) (hw _ (List.mem_of_getElem? (i := 5) rfl)) (hw _ (List.mem_of_getElem? (i := 6) rfl)) (by decide) at_104 rfl pd1 rfl rfl rfl (by decide) (W := 2) rfl (by decide) (by decide) (by decide) (by decide) (by decide) ?_
      intro v104 h104 σ104 q104
      obtain ⟨u1, L104, rfl, gu1, e104, Su1, rfl, K104⟩ := q104
      show Go κ (some L104) h104 24 276 107 #[.val (.int a), .val (.int b), .val (.int c), .val (.int d), .val (.int mode), .val (.int u), .val (.int w), .val (.ref t), .val (.int (mode &&& (3 : Int32))), .unset, .unset] [(.ref u1), (.ref o), (.ref o)]
      have Ss1 := Ss1.ext e104
      have Ss2 := Ss2.ext e104
      have P82 := P82.ext e104
      have P98 := P98.ext e104
      have z104 : n0 ≤ h104.size := Nat.le_trans z98 e104.1
      refine Go.iload D (pc' := 109) at_107 rfl rfl ?_
      refine Go.callS D (argsL := [(.int w)]) (rest := [(.ref u1), (.ref o), (.ref o)]) (pc' := 112) (ce' := 30) (sl' := 356) (con_mk l Z a0 hw h104 n0 w z104 hcw hh cz hcz O2 L104 K104) (hw _ (List.mem_of_getElem? (i := 3) rfl)) (hw _ (List.mem_of_getElem? (i := 4) rfl)) (hw _ (List.mem_of_getElem? (i := 5) rfl)) (hw _ (List.mem_of_getElem? (i := 6) rfl)) (by decide) at_109 rfl pd1 rfl rfl rfl (by decide) (W := 3) rfl (by decide) (by decide) (by decide) (by decide) (by decide) ?_
      intro v109 h109 σ109 q109
      obtain ⟨u2, L109, rfl, gu2, e109, Su2, rfl, K109⟩ := q109
      show Go κ (some L109) h109 30 356 112 #[.val (.int a), .val (.int b), .val (.int c), .val (.int d), .val (.int mode), .val (.int u), .val (.int w), .val (.ref t), .val (.int (mode &&& (3 : Int32))), .unset, .unset] [(.ref u2), (.ref u1), (.ref o), (.ref o)]
      have Ss1 := Ss1.ext e109
      have Ss2 := Ss2.ext e109
      have P82 := P82.ext e109
      have P98 := P98.ext e109
      have Su1 := Su1.ext e109
      have z109 : n0 ≤ h109.size := Nat.le_trans z104 e109.1
      have nt112 : t ≠ o := Fld.ne P82.2.1 P98.2.1 (fun z => nomatch z)
      refine Go.callI D (argsL := [(.ref u1), (.ref u2)]) (rest := [(.ref o)]) (pc' := 115) (ce' := 34) (sl' := 388) (con_ctor l Z a0 hw h109 n0 o u1 u2 ggo P98 Su1.1.1 Su2.1.1 hcw hh1 hh2 L109 K109) rfl (hw _ (List.mem_of_getElem? (i := 32) rfl)) (hw _ (List.mem_of_getElem? (i := 33) rfl)) (hw _ (List.mem_of_getElem? (i := 2) rfl)) (hw _ (List.mem_of_getElem? (i := 34) rfl)) (by decide) at_112 rfl pd6 rfl rfl rfl (by decide) (W := 1) rfl (by decide) (by decide) (by decide) (by decide) (by decide) ?_
      intro v112 h112 σ112 q112
      obtain ⟨rfl, k112, P112, L112, rfl, K112⟩ := q112
      show Go κ (some L112) h112 34 388 115 #[.val (.int a), .val (.int b), .val (.int c), .val (.int d), .val (.int mode), .val (.int u), .val (.int w), .val (.ref t), .val (.int (mode &&& (3 : Int32))), .unset, .unset] [(.ref o)]
      have Ss1 := Ss1.keep k112 (Exa.ne Ss1.1.1 P98.1 (by decide)) P98.1 (hw _ (List.mem_of_getElem? (i := 1) rfl))
      have Ss2 := Ss2.keep k112 (Exa.ne Ss2.1.1 P98.1 (by decide)) P98.1 (hw _ (List.mem_of_getElem? (i := 1) rfl))
      have P82 : PB Z h112 _ _ _ := ⟨P82.1.keep k112, P82.2.1.keep k112 (nin1 nt112), P82.2.2.keep k112 (nin1 nt112)⟩
      have Su1 := Su1.keep k112 (Exa.ne Su1.1.1 P98.1 (by decide)) P98.1 (hw _ (List.mem_of_getElem? (i := 1) rfl))
      have Su2 := Su2.keep k112 (Exa.ne Su2.1.1 P98.1 (by decide)) P98.1 (hw _ (List.mem_of_getElem? (i := 1) rfl))
      have z112 : n0 ≤ h112.size := Nat.le_trans z109 k112.1
      refine Go.astore D (pc' := 117) at_115 rfl rfl (ls' := #[.val (.int a), .val (.int b), .val (.int c), .val (.int d), .val (.int mode), .val (.int u), .val (.int w), .val (.ref t), .val (.int (mode &&& (3 : Int32))), .val (.ref o), .unset]) rfl ?_
      refine Go.iloadN D (pc' := 118) at_117 rfl rfl ?_
      refine Go.iload D (pc' := 120) at_118 rfl rfl ?_
      refine Go.callS D (argsL := [(.int a), (.int u)]) (rest := []) (pc' := 123) (ce' := 34) (sl' := 388) (con_same l Z a0 hw h112 n0 (some L112) a u) (hw _ (List.mem_of_getElem? (i := 47) rfl)) (hw _ (List.mem_of_getElem? (i := 48) rfl)) (hw _ (List.mem_of_getElem? (i := 5) rfl)) (hw _ (List.mem_of_getElem? (i := 49) rfl)) (by decide) at_120 rfl pd8 rfl rfl rfl (by decide) (W := 0) rfl (by decide) (by decide) (by decide) (by decide) (by decide) ?_
      intro v120 h120 σ120 q120
      obtain ⟨rfl, rfl, m120, rfl, hm120⟩ := q120
      show Go κ (some L112) h112 34 388 123 #[.val (.int a), .val (.int b), .val (.int c), .val (.int d), .val (.int mode), .val (.int u), .val (.int w), .val (.ref t), .val (.int (mode &&& (3 : Int32))), .val (.ref o), .unset] [(.int m120)]
      refine Go.ifc D (pc' := 139) (pc2 := 126) at_123 (by decide) (by decide) rfl ?_ ?_
      · intro (hc123 : m120 = 0)
        refine Go.iconst D (pc' := 140) at_139 rfl (v := (0 : Int32)) rfl ?_
        refine Go.istore D (pc' := 142) at_140 rfl (ls' := #[.val (.int a), .val (.int b), .val (.int c), .val (.int d), .val (.int mode), .val (.int u), .val (.int w), .val (.ref t), .val (.int (mode &&& (3 : Int32))), .val (.ref o), .val (.int (0 : Int32))]) rfl ?_
        refine Go.goto D (pc' := 185) at_142 (by decide) (by decide) ?_
        refine Go.aload D (pc' := 187) at_185 rfl rfl rfl ?_
        refine Go.aload D (pc' := 189) at_187 rfl rfl rfl ?_
        refine Go.callV D (argsL := [(.ref o)]) (rest := []) (pc' := 192) (ce' := 34) (sl' := 388) (con_eq l Z a0 hw h112 n0 (some L112) t o s1 s2 u1 u2 _ _ _ _ P82 P112 Ss1 Ss2 Su1 Su2 cz hcz O2) (hw _ (List.mem_of_getElem? (i := 50) rfl)) (hw _ (List.mem_of_getElem? (i := 51) rfl)) (hw _ (List.mem_of_getElem? (i := 53) rfl)) (hw _ (List.mem_of_getElem? (i := 52) rfl)) (hw _ (List.mem_of_getElem? (i := 2) rfl)) (hw _ (List.mem_of_getElem? (i := 54) rfl)) (nfS (hw _ (List.mem_of_getElem? (i := 53) rfl))) (by decide) P82.1 at_189 rfl pd9 rfl rfl rfl (by decide) (W := 0) rfl (by decide) (by decide) (by decide) (by decide) (by decide) ?_
        intro v189 h189 σ189 q189
        obtain ⟨rfl, rfl, r, rfl, hr⟩ := q189
        show Go κ (some L112) h112 34 388 192 #[.val (.int a), .val (.int b), .val (.int c), .val (.int d), .val (.int mode), .val (.int u), .val (.int w), .val (.ref t), .val (.int (mode &&& (3 : Int32))), .val (.ref o), .val (.int (0 : Int32))] [(.int r)]
        refine Go.iload D (pc' := 194) at_192 rfl rfl ?_
        refine Go.icmp D (pc' := 201) (pc2 := 197) at_194 (by decide) (by decide) rfl ?_ ?_
        · intro (hc194 : ¬ r = (0 : Int32))
          exact absurd (hr.elim (fun z => absurd z.2.1 (hm120.elim (fun y => absurd hc123 (by rw [y.1]; decide)) (fun y => y.2))) (fun z => z.1)) hc194
        · intro (hc194 : r = (0 : Int32))
          refine Go.iconst D (pc' := 198) at_197 rfl (v := (1 : Int32)) rfl ?_
          refine Go.goto D (pc' := 202) at_198 (by decide) (by decide) ?_
          refine Go.zret D rfl rfl at_202 (by decide) (by decide) ?_
          exact rfl
      · intro (hc123 : ¬ m120 = 0)
        refine Go.iloadN D (pc' := 127) at_126 rfl rfl ?_
        refine Go.iload D (pc' := 129) at_127 rfl rfl ?_
        refine Go.callS D (argsL := [(.int b), (.int w)]) (rest := []) (pc' := 132) (ce' := 34) (sl' := 388) (con_same l Z a0 hw h112 n0 (some L112) b w) (hw _ (List.mem_of_getElem? (i := 47) rfl)) (hw _ (List.mem_of_getElem? (i := 48) rfl)) (hw _ (List.mem_of_getElem? (i := 5) rfl)) (hw _ (List.mem_of_getElem? (i := 49) rfl)) (by decide) at_129 rfl pd8 rfl rfl rfl (by decide) (W := 0) rfl (by decide) (by decide) (by decide) (by decide) (by decide) ?_
        intro v129 h129 σ129 q129
        obtain ⟨rfl, rfl, m129, rfl, hm129⟩ := q129
        show Go κ (some L112) h112 34 388 132 #[.val (.int a), .val (.int b), .val (.int c), .val (.int d), .val (.int mode), .val (.int u), .val (.int w), .val (.ref t), .val (.int (mode &&& (3 : Int32))), .val (.ref o), .unset] [(.int m129)]
        refine Go.ifc D (pc' := 139) (pc2 := 135) at_132 (by decide) (by decide) rfl ?_ ?_
        · intro (hc132 : m129 = 0)
          refine Go.iconst D (pc' := 140) at_139 rfl (v := (0 : Int32)) rfl ?_
          refine Go.istore D (pc' := 142) at_140 rfl (ls' := #[.val (.int a), .val (.int b), .val (.int c), .val (.int d), .val (.int mode), .val (.int u), .val (.int w), .val (.ref t), .val (.int (mode &&& (3 : Int32))), .val (.ref o), .val (.int (0 : Int32))]) rfl ?_
          refine Go.goto D (pc' := 185) at_142 (by decide) (by decide) ?_
          refine Go.aload D (pc' := 187) at_185 rfl rfl rfl ?_
          refine Go.aload D (pc' := 189) at_187 rfl rfl rfl ?_
          refine Go.callV D (argsL := [(.ref o)]) (rest := []) (pc' := 192) (ce' := 34) (sl' := 388) (con_eq l Z a0 hw h112 n0 (some L112) t o s1 s2 u1 u2 _ _ _ _ P82 P112 Ss1 Ss2 Su1 Su2 cz hcz O2) (hw _ (List.mem_of_getElem? (i := 50) rfl)) (hw _ (List.mem_of_getElem? (i := 51) rfl)) (hw _ (List.mem_of_getElem? (i := 53) rfl)) (hw _ (List.mem_of_getElem? (i := 52) rfl)) (hw _ (List.mem_of_getElem? (i := 2) rfl)) (hw _ (List.mem_of_getElem? (i := 54) rfl)) (nfS (hw _ (List.mem_of_getElem? (i := 53) rfl))) (by decide) P82.1 at_189 rfl pd9 rfl rfl rfl (by decide) (W := 0) rfl (by decide) (by decide) (by decide) (by decide) (by decide) ?_
          intro v189 h189 σ189 q189
          obtain ⟨rfl, rfl, r, rfl, hr⟩ := q189
          show Go κ (some L112) h112 34 388 192 #[.val (.int a), .val (.int b), .val (.int c), .val (.int d), .val (.int mode), .val (.int u), .val (.int w), .val (.ref t), .val (.int (mode &&& (3 : Int32))), .val (.ref o), .val (.int (0 : Int32))] [(.int r)]
          refine Go.iload D (pc' := 194) at_192 rfl rfl ?_
          refine Go.icmp D (pc' := 201) (pc2 := 197) at_194 (by decide) (by decide) rfl ?_ ?_
          · intro (hc194 : ¬ r = (0 : Int32))
            exact absurd (hr.elim (fun z => absurd z.2.2 (hm129.elim (fun y => absurd hc132 (by rw [y.1]; decide)) (fun y => y.2))) (fun z => z.1)) hc194
          · intro (hc194 : r = (0 : Int32))
            refine Go.iconst D (pc' := 198) at_197 rfl (v := (1 : Int32)) rfl ?_
            refine Go.goto D (pc' := 202) at_198 (by decide) (by decide) ?_
            refine Go.zret D rfl rfl at_202 (by decide) (by decide) ?_
            exact rfl
        · intro (hc132 : ¬ m129 = 0)
          refine Go.iconst D (pc' := 136) at_135 rfl (v := (1 : Int32)) rfl ?_
          refine Go.goto D (pc' := 140) at_136 (by decide) (by decide) ?_
          refine Go.istore D (pc' := 142) at_140 rfl (ls' := #[.val (.int a), .val (.int b), .val (.int c), .val (.int d), .val (.int mode), .val (.int u), .val (.int w), .val (.ref t), .val (.int (mode &&& (3 : Int32))), .val (.ref o), .val (.int (1 : Int32))]) rfl ?_
          refine Go.goto D (pc' := 185) at_142 (by decide) (by decide) ?_
          refine Go.aload D (pc' := 187) at_185 rfl rfl rfl ?_
          refine Go.aload D (pc' := 189) at_187 rfl rfl rfl ?_
          refine Go.callV D (argsL := [(.ref o)]) (rest := []) (pc' := 192) (ce' := 34) (sl' := 388) (con_eq l Z a0 hw h112 n0 (some L112) t o s1 s2 u1 u2 _ _ _ _ P82 P112 Ss1 Ss2 Su1 Su2 cz hcz O2) (hw _ (List.mem_of_getElem? (i := 50) rfl)) (hw _ (List.mem_of_getElem? (i := 51) rfl)) (hw _ (List.mem_of_getElem? (i := 53) rfl)) (hw _ (List.mem_of_getElem? (i := 52) rfl)) (hw _ (List.mem_of_getElem? (i := 2) rfl)) (hw _ (List.mem_of_getElem? (i := 54) rfl)) (nfS (hw _ (List.mem_of_getElem? (i := 53) rfl))) (by decide) P82.1 at_189 rfl pd9 rfl rfl rfl (by decide) (W := 0) rfl (by decide) (by decide) (by decide) (by decide) (by decide) ?_
          intro v189 h189 σ189 q189
          obtain ⟨rfl, rfl, r, rfl, hr⟩ := q189
          show Go κ (some L112) h112 34 388 192 #[.val (.int a), .val (.int b), .val (.int c), .val (.int d), .val (.int mode), .val (.int u), .val (.int w), .val (.ref t), .val (.int (mode &&& (3 : Int32))), .val (.ref o), .val (.int (1 : Int32))] [(.int r)]
          refine Go.iload D (pc' := 194) at_192 rfl rfl ?_
          refine Go.icmp D (pc' := 201) (pc2 := 197) at_194 (by decide) (by decide) rfl ?_ ?_
          · intro (hc194 : ¬ r = (1 : Int32))
            exact absurd (hr.elim (fun z => z.1) (fun z => absurd ⟨hm120.elim (fun y => y.2) (fun y => absurd y.1 hc123), hm129.elim (fun y => y.2) (fun y => absurd y.1 hc132)⟩ z.2)) hc194
          · intro (hc194 : r = (1 : Int32))
            refine Go.iconst D (pc' := 198) at_197 rfl (v := (1 : Int32)) rfl ?_
            refine Go.goto D (pc' := 202) at_198 (by decide) (by decide) ?_
            refine Go.zret D rfl rfl at_202 (by decide) (by decide) ?_
            exact rfl
  refine Go.iload D (pc' := 2) at_0 rfl rfl ?_
  refine Go.iconst D (pc' := 3) at_2 rfl (v := (2 : Int32)) rfl ?_
  refine Go.iushr D (pc' := 4) at_3 rfl  ?_
  refine Go.iconst D (pc' := 5) at_4 rfl (v := (1 : Int32)) rfl ?_
  refine Go.iand D (pc' := 6) at_5 rfl  ?_
  refine Go.ifc D (pc' := 13) (pc2 := 9) at_6 (by decide) (by decide) rfl ?_ ?_
  · intro (hc6 : ((ushr mode (2 : Int32)) &&& (1 : Int32)) = 0)
    refine Go.iload D (pc' := 15) at_13 rfl rfl ?_
    refine Go.iconst D (pc' := 16) at_15 rfl (v := (4 : Int32)) rfl ?_
    refine Go.iushr D (pc' := 17) at_16 rfl  ?_
    refine Go.iconst D (pc' := 18) at_17 rfl (v := (1 : Int32)) rfl ?_
    refine Go.iand D (pc' := 19) at_18 rfl  ?_
    refine Go.ifc D (pc' := 32) (pc2 := 22) at_19 (by decide) (by decide) rfl ?_ ?_
    · intro (hc19 : ((ushr mode (4 : Int32)) &&& (1 : Int32)) = 0)
      refine Go.iloadN D (pc' := 33) at_32 rfl rfl ?_
      refine Go.istore D (pc' := 35) at_33 rfl (ls' := #[.val (.int a), .val (.int b), .val (.int c), .val (.int d), .val (.int mode), .val (.int c), .unset, .unset, .unset, .unset, .unset]) rfl ?_
      refine Go.iload D (pc' := 37) at_35 rfl rfl ?_
      refine Go.iconst D (pc' := 38) at_37 rfl (v := (3 : Int32)) rfl ?_
      refine Go.iushr D (pc' := 39) at_38 rfl  ?_
      refine Go.iconst D (pc' := 40) at_39 rfl (v := (1 : Int32)) rfl ?_
      refine Go.iand D (pc' := 41) at_40 rfl  ?_
      refine Go.ifc D (pc' := 48) (pc2 := 44) at_41 (by decide) (by decide) rfl ?_ ?_
      · intro (hc41 : ((ushr mode (3 : Int32)) &&& (1 : Int32)) = 0)
        refine Go.iload D (pc' := 50) at_48 rfl rfl ?_
        refine Go.iconst D (pc' := 51) at_50 rfl (v := (5 : Int32)) rfl ?_
        refine Go.iushr D (pc' := 52) at_51 rfl  ?_
        refine Go.iconst D (pc' := 53) at_52 rfl (v := (1 : Int32)) rfl ?_
        refine Go.iand D (pc' := 54) at_53 rfl  ?_
        refine Go.ifc D (pc' := 67) (pc2 := 57) at_54 (by decide) (by decide) rfl ?_ ?_
        · intro (hc54 : ((ushr mode (5 : Int32)) &&& (1 : Int32)) = 0)
          refine Go.iloadN D (pc' := 68) at_67 rfl rfl ?_
          refine Go.istore D (pc' := 70) at_68 rfl (ls' := #[.val (.int a), .val (.int b), .val (.int c), .val (.int d), .val (.int mode), .val (.int c), .val (.int d), .unset, .unset, .unset, .unset]) rfl ?_
          exact J70 _ _
        · intro (hc54 : ¬ ((ushr mode (5 : Int32)) &&& (1 : Int32)) = 0)
          refine Go.iloadN D (pc' := 58) at_57 rfl rfl ?_
          refine Go.iloadN D (pc' := 59) at_58 rfl rfl ?_
          refine Go.sipush D (pc' := 62) at_59 rfl (v := (257 : Int32)) rfl ?_
          refine Go.iand D (pc' := 63) at_62 rfl  ?_
          refine Go.ixor D (pc' := 64) at_63 rfl  ?_
          refine Go.goto D (pc' := 68) at_64 (by decide) (by decide) ?_
          refine Go.istore D (pc' := 70) at_68 rfl (ls' := #[.val (.int a), .val (.int b), .val (.int c), .val (.int d), .val (.int mode), .val (.int c), .val (.int (b ^^^ (d &&& (257 : Int32)))), .unset, .unset, .unset, .unset]) rfl ?_
          exact J70 _ _
      · intro (hc41 : ¬ ((ushr mode (3 : Int32)) &&& (1 : Int32)) = 0)
        refine Go.iloadN D (pc' := 45) at_44 rfl rfl ?_
        refine Go.goto D (pc' := 68) at_45 (by decide) (by decide) ?_
        refine Go.istore D (pc' := 70) at_68 rfl (ls' := #[.val (.int a), .val (.int b), .val (.int c), .val (.int d), .val (.int mode), .val (.int c), .val (.int b), .unset, .unset, .unset, .unset]) rfl ?_
        exact J70 _ _
    · intro (hc19 : ¬ ((ushr mode (4 : Int32)) &&& (1 : Int32)) = 0)
      refine Go.iloadN D (pc' := 23) at_22 rfl rfl ?_
      refine Go.iloadN D (pc' := 24) at_23 rfl rfl ?_
      refine Go.sipush D (pc' := 27) at_24 rfl (v := (257 : Int32)) rfl ?_
      refine Go.iand D (pc' := 28) at_27 rfl  ?_
      refine Go.ixor D (pc' := 29) at_28 rfl  ?_
      refine Go.goto D (pc' := 33) at_29 (by decide) (by decide) ?_
      refine Go.istore D (pc' := 35) at_33 rfl (ls' := #[.val (.int a), .val (.int b), .val (.int c), .val (.int d), .val (.int mode), .val (.int (a ^^^ (c &&& (257 : Int32)))), .unset, .unset, .unset, .unset, .unset]) rfl ?_
      refine Go.iload D (pc' := 37) at_35 rfl rfl ?_
      refine Go.iconst D (pc' := 38) at_37 rfl (v := (3 : Int32)) rfl ?_
      refine Go.iushr D (pc' := 39) at_38 rfl  ?_
      refine Go.iconst D (pc' := 40) at_39 rfl (v := (1 : Int32)) rfl ?_
      refine Go.iand D (pc' := 41) at_40 rfl  ?_
      refine Go.ifc D (pc' := 48) (pc2 := 44) at_41 (by decide) (by decide) rfl ?_ ?_
      · intro (hc41 : ((ushr mode (3 : Int32)) &&& (1 : Int32)) = 0)
        refine Go.iload D (pc' := 50) at_48 rfl rfl ?_
        refine Go.iconst D (pc' := 51) at_50 rfl (v := (5 : Int32)) rfl ?_
        refine Go.iushr D (pc' := 52) at_51 rfl  ?_
        refine Go.iconst D (pc' := 53) at_52 rfl (v := (1 : Int32)) rfl ?_
        refine Go.iand D (pc' := 54) at_53 rfl  ?_
        refine Go.ifc D (pc' := 67) (pc2 := 57) at_54 (by decide) (by decide) rfl ?_ ?_
        · intro (hc54 : ((ushr mode (5 : Int32)) &&& (1 : Int32)) = 0)
          refine Go.iloadN D (pc' := 68) at_67 rfl rfl ?_
          refine Go.istore D (pc' := 70) at_68 rfl (ls' := #[.val (.int a), .val (.int b), .val (.int c), .val (.int d), .val (.int mode), .val (.int (a ^^^ (c &&& (257 : Int32)))), .val (.int d), .unset, .unset, .unset, .unset]) rfl ?_
          exact J70 _ _
        · intro (hc54 : ¬ ((ushr mode (5 : Int32)) &&& (1 : Int32)) = 0)
          refine Go.iloadN D (pc' := 58) at_57 rfl rfl ?_
          refine Go.iloadN D (pc' := 59) at_58 rfl rfl ?_
          refine Go.sipush D (pc' := 62) at_59 rfl (v := (257 : Int32)) rfl ?_
          refine Go.iand D (pc' := 63) at_62 rfl  ?_
          refine Go.ixor D (pc' := 64) at_63 rfl  ?_
          refine Go.goto D (pc' := 68) at_64 (by decide) (by decide) ?_
          refine Go.istore D (pc' := 70) at_68 rfl (ls' := #[.val (.int a), .val (.int b), .val (.int c), .val (.int d), .val (.int mode), .val (.int (a ^^^ (c &&& (257 : Int32)))), .val (.int (b ^^^ (d &&& (257 : Int32)))), .unset, .unset, .unset, .unset]) rfl ?_
          exact J70 _ _
      · intro (hc41 : ¬ ((ushr mode (3 : Int32)) &&& (1 : Int32)) = 0)
        refine Go.iloadN D (pc' := 45) at_44 rfl rfl ?_
        refine Go.goto D (pc' := 68) at_45 (by decide) (by decide) ?_
        refine Go.istore D (pc' := 70) at_68 rfl (ls' := #[.val (.int a), .val (.int b), .val (.int c), .val (.int d), .val (.int mode), .val (.int (a ^^^ (c &&& (257 : Int32)))), .val (.int b), .unset, .unset, .unset, .unset]) rfl ?_
        exact J70 _ _
  · intro (hc6 : ¬ ((ushr mode (2 : Int32)) &&& (1 : Int32)) = 0)
    refine Go.iloadN D (pc' := 10) at_9 rfl rfl ?_
    refine Go.goto D (pc' := 33) at_10 (by decide) (by decide) ?_
    refine Go.istore D (pc' := 35) at_33 rfl (ls' := #[.val (.int a), .val (.int b), .val (.int c), .val (.int d), .val (.int mode), .val (.int a), .unset, .unset, .unset, .unset, .unset]) rfl ?_
    refine Go.iload D (pc' := 37) at_35 rfl rfl ?_
    refine Go.iconst D (pc' := 38) at_37 rfl (v := (3 : Int32)) rfl ?_
    refine Go.iushr D (pc' := 39) at_38 rfl  ?_
    refine Go.iconst D (pc' := 40) at_39 rfl (v := (1 : Int32)) rfl ?_
    refine Go.iand D (pc' := 41) at_40 rfl  ?_
    refine Go.ifc D (pc' := 48) (pc2 := 44) at_41 (by decide) (by decide) rfl ?_ ?_
    · intro (hc41 : ((ushr mode (3 : Int32)) &&& (1 : Int32)) = 0)
      refine Go.iload D (pc' := 50) at_48 rfl rfl ?_
      refine Go.iconst D (pc' := 51) at_50 rfl (v := (5 : Int32)) rfl ?_
      refine Go.iushr D (pc' := 52) at_51 rfl  ?_
      refine Go.iconst D (pc' := 53) at_52 rfl (v := (1 : Int32)) rfl ?_
      refine Go.iand D (pc' := 54) at_53 rfl  ?_
      refine Go.ifc D (pc' := 67) (pc2 := 57) at_54 (by decide) (by decide) rfl ?_ ?_
      · intro (hc54 : ((ushr mode (5 : Int32)) &&& (1 : Int32)) = 0)
        refine Go.iloadN D (pc' := 68) at_67 rfl rfl ?_
        refine Go.istore D (pc' := 70) at_68 rfl (ls' := #[.val (.int a), .val (.int b), .val (.int c), .val (.int d), .val (.int mode), .val (.int a), .val (.int d), .unset, .unset, .unset, .unset]) rfl ?_
        exact J70 _ _
      · intro (hc54 : ¬ ((ushr mode (5 : Int32)) &&& (1 : Int32)) = 0)
        refine Go.iloadN D (pc' := 58) at_57 rfl rfl ?_
        refine Go.iloadN D (pc' := 59) at_58 rfl rfl ?_
        refine Go.sipush D (pc' := 62) at_59 rfl (v := (257 : Int32)) rfl ?_
        refine Go.iand D (pc' := 63) at_62 rfl  ?_
        refine Go.ixor D (pc' := 64) at_63 rfl  ?_
        refine Go.goto D (pc' := 68) at_64 (by decide) (by decide) ?_
        refine Go.istore D (pc' := 70) at_68 rfl (ls' := #[.val (.int a), .val (.int b), .val (.int c), .val (.int d), .val (.int mode), .val (.int a), .val (.int (b ^^^ (d &&& (257 : Int32)))), .unset, .unset, .unset, .unset]) rfl ?_
        exact J70 _ _
    · intro (hc41 : ¬ ((ushr mode (3 : Int32)) &&& (1 : Int32)) = 0)
      refine Go.iloadN D (pc' := 45) at_44 rfl rfl ?_
      refine Go.goto D (pc' := 68) at_45 (by decide) (by decide) ?_
      refine Go.istore D (pc' := 70) at_68 rfl (ls' := #[.val (.int a), .val (.int b), .val (.int c), .val (.int d), .val (.int mode), .val (.int a), .val (.int b), .unset, .unset, .unset, .unset]) rfl ?_
      exact J70 _ _
set_option maxRecDepth 65536 in
set_option maxHeartbeats 40000000 in
theorem comes_1 {Post : Tables → Env → Array Value → State → Outcome → State → Prop} (hpost : ∀ tb e args s v u, (limb_1_1.after args s (.returned v) u = true ∧ limb_1_2.after args s (.returned v) u = true ∧ True) → Jvm.D.FramedW s (.returned v) u (Jvm.fieldLocs frame_1_writes args s ++ Jvm.arrayLocs frame_1_arrays args s ++ Jvm.staticLocs frame_1_statics s) 48 3264 → Post tb e args s (.returned v) u) :
    ArmFor flags0 classFile x code maxLocals ret World_1 tables_1 room_1 Calls_1 rest_1 Pre_1 Post := by
  intro l hfl _ _ p e ha hc hk s m args below hf hA hF happ hP
  obtain ⟨hcalls, hrest, hpre⟩ := hP
  obtain ⟨-, -, -, hnamed, -, -, -, hat⟩ := (Spec.applies_iff hf).mp happ
  obtain ⟨hg, hn⟩ := and_e (Cond.before_iff.mp (show (Jvm.Cond.and given_1 narrow_1).before args s = true from hpre))
  obtain ⟨h1, k0⟩ := and_e hg
  obtain ⟨j0, k1⟩ := and_e k0
  obtain ⟨j1, k2⟩ := and_e k1
  obtain ⟨j2, k3⟩ := and_e k2
  obtain ⟨j3, k4⟩ := and_e k3
  obtain ⟨w0, w1, w2, w3, w4, rfl⟩ : ∃ w0 w1 w2 w3 w4 : Value, args = #[w0, w1, w2, w3, w4] := by
    have hs : args.size = 5 := by simpa [Cond.value, given_1] using h1
    obtain ⟨L⟩ := args
    match L, hs with
    | [w0, w1, w2, w3, w4], _ => exact ⟨w0, w1, w2, w3, w4, rfl⟩
  have hw := fun d (hd : d ∈ tables_1) => atoms_spec (ws := Jvm.Cond.code x code maxLocals ret :: tables_1) hat d (List.mem_cons_of_mem _ hd)
  obtain ⟨i0, e0⟩ := is_v j0
  obtain rfl : w0 = (.int i0) := Option.some.inj e0
  obtain ⟨i1, e1⟩ := is_v j1
  obtain rfl : w1 = (.int i1) := Option.some.inj e1
  obtain ⟨i2, e2⟩ := is_v j2
  obtain rfl : w2 = (.int i2) := Option.some.inj e2
  obtain ⟨i3, e3⟩ := is_v j3
  obtain rfl : w3 = (.int i3) := Option.some.inj e3
  obtain ⟨i4, e4⟩ := is_v k4
  obtain rfl : w4 = (.int i4) := Option.some.inj e4
  obtain ⟨hsets, hown0⟩ := atoms_of _ (rest_1_c_eq ▸ (show rest_1_c.before _ s = true from hrest))
  have n3 := not_v (Cond.before_iff.mp (hsets _ (List.mem_of_getElem? (i := 2) rfl)))
  obtain ⟨i77, e77⟩ := is_v (Cond.before_iff.mp (hsets _ (List.mem_of_getElem? (i := 1) rfl)))
  have S8 : Sta s s.heap "java/lang/String" "COMPACT_STRINGS" "Z" (.int i77) := Sta.start e77 (Or.inl (hsets _ (List.mem_of_getElem? (i := 0) rfl)))
  have c13 : ¬ (i77 = (0 : Int32)) := gotF (Cond.eq_ints e77 (Term.int_eval (0))) n3
  have hcw : Jvm.Lit.compactW.before _ s = true := hsets _ (List.mem_of_getElem? (i := 2) rfl)

  have hcs : ∀ q ∈ consts_1, Jvm.Lit.constHeld s q.1 q.2 := hcalls.1
  obtain ⟨n, o, g1, g2, g3, _, L, τ, rfl, ⟨N, -, -, rfl⟩, hq⟩ := con_law l s _ hw s.heap s.heap.size (Nat.le_refl _) hcw (hcs ("java/lang/String", 7) (by simp [consts_1])) i77 c13 S8 (hcs ("com/example/comb/comb/io/Topic", 7) (by simp [consts_1])) (hcs ("com/example/comb/comb/io/Topic", 22) (by simp [consts_1])) i0 i1 i2 i3 i4 p e ha hc hk s m _ below hf ((Spec.applies_iff_loose hf).mp happ).1 ⟨rfl, State.Warmed39.refl s, rfl, ⟨IB.start, fun q hq => nomatch hq⟩, Old.start s⟩ trivial
  refine ⟨n, _, g1, g2, g3, hpost _ _ _ _ _ _ ⟨Cond.after_iff.mpr rfl, Cond.after_iff.mpr (eq_i res_at (Term.int_eval (1)) rfl), trivial⟩ ⟨hq.1, hq.2.1, hq.2.2.1, (hq.2.2.2.sift fun y hy => Or.inr (N y hy)).mono (by decide) (by decide)⟩⟩
theorem main_1_1 : Claimed_1_1 := comes_1 fun _ _ _ _ _ _ h hF => ⟨h.1, hF⟩
theorem main_1_2 : Claimed_1_2 := comes_1 fun _ _ _ _ _ _ h hF => ⟨h.2.1, hF⟩
end Jvm.Pilot.@@N@@
namespace Jvm.Pilot.@@N@@
open Jvm Jvm.ClassFile Sem Op Lib Jvm.Free Jvm.Stand Jvm.Pilot.@@N@@.Jvm.D
/-! MADE BY PROGRAM (witnessworld.py) out of the Statement's table words and the real class files: 21 classes; the members and pool entries that the words name. The judged class is class 1, her method 4. -/
namespace start1
open Jvm.ClassFile
def u (s : String) : CpInfo := .utf8 (stringToUtf16 s)
/-- a pool by its gaps: so many unusable entries, then the entry; so many at the end -/
def gap : Nat → List CpInfo → List CpInfo
  | 0, r => r
  | n + 1, r => .unusable :: gap n r
def poolList (es : List (Nat × CpInfo)) (last : Nat) : List CpInfo := es.foldr (fun e r => gap e.1 (e.2 :: r)) (gap last [])
def pool (es : List (Nat × CpInfo)) (last : Nat) : Array CpInfo := ⟨poolList es last⟩
def fileOf (pool : Array CpInfo) (this : Nat) (attrs : Array Attribute := #[]) (ms : Array MethodInfo := #[]) (fl : Nat := 33) (sup : Nat := 0) (ifs : Array Nat := #[]) (fds : Array FieldInfo := #[]) : ClassFile where
  minorVersion := 0
  majorVersion := 65
  constantPool := pool
  accessFlags := fl
  thisClass := this
  superClass := sup
  interfaces := ifs
  fields := fds
  methods := ms
  attributes := attrs
def plain (name : String) (sup : Option ClassId) : Class where
  name := name
  kind := .ordinary
  loader := none
  accessFlags := 33
  super := sup
  interfaces := #[]
  cf := none
  fields := #[]
  methods := #[]
  instanceTypes := #[]
  staticTypes := #[]
  resolved := #[]
  callSites := []
  init := .initialized
  statics := none
  mirror := none

def pool0 : Array CpInfo := pool [(5, u "<init>"), (0, u "()V"), (1, .class_ 10), (1, u "java/lang/Object")] 113

def k0c0 : Code := { maxStack := 0, maxLocals := 1, code := object_method_1_code, exceptionTable := #[], attributes := #[] }
def k0m0 : Method := { name := "<init>", desc := "()V", sig := { parameters := [], returnType := none }, accessFlags := 1, code := some k0c0 }
/-- java/lang/Object -/
def k0 : Class := { plain "java/lang/Object" none with
  accessFlags := 33
  interfaces := #[]
  cf := some (fileOf pool0 8 #[] #[{ accessFlags := 1, nameIndex := 5, descriptorIndex := 6, attributes := #[] }] 33 0 #[] #[])
  fields := #[]
  methods := #[k0m0]
  instanceTypes := #[]
  staticTypes := #[]
  resolved := Array.replicate 124 none
  statics := none }

def pool1 : Array CpInfo := pool [(2, .class_ 4), (1, u "java/lang/Object"), (0, u "<init>"), (0, u "()V"), (0, .methodref 8 9), (0, .class_ 10), (0, .nameAndType 11 12), (0, u "com/example/comb/comb/io/TopicEqualsPinLaw"), (0, u "len"), (0, u "(I)I"), (0, .class_ 14), (0, u "java/lang/String"), (0, .methodref 13 16), (0, .nameAndType 5 17), (0, u "([C)V"), (0, .class_ 19), (0, u "com/example/comb/comb/io/Topic"), (0, .methodref 8 21), (0, .nameAndType 22 23), (0, u "mk"), (0, u "(I)Ljava/lang/String;"), (0, .methodref 18 25), (0, .nameAndType 5 26), (0, u "(Ljava/lang/String;Ljava/lang/String;)V"), (0, .methodref 8 28), (0, .nameAndType 29 30), (0, u "same"), (0, u "(II)Z"), (0, .methodref 18 32), (0, .nameAndType 33 34), (0, u "equals"), (0, u "(Ljava/lang/Object;)Z"), (3, u "law"), (0, u "(IIIII)Z")] 2

def k1m0 : Method := { name := "<init>", desc := "()V", sig := { parameters := [], returnType := none }, accessFlags := 1, code := none }
def k1c1 : Code := { maxStack := 2, maxLocals := 1, code := method_2_code, exceptionTable := #[], attributes := #[] }
def k1m1 : Method := { name := "len", desc := "(I)I", sig := { parameters := [.int], returnType := some .int }, accessFlags := 10, code := some k1c1 }
def k1c2 : Code := { maxStack := 3, maxLocals := 5, code := method_3_code, exceptionTable := #[], attributes := #[] }
def k1m2 : Method := { name := "mk", desc := "(I)Ljava/lang/String;", sig := { parameters := [.int], returnType := some (.object "java/lang/String") }, accessFlags := 10, code := some k1c2 }
def k1c3 : Code := { maxStack := 3, maxLocals := 3, code := method_4_code, exceptionTable := #[], attributes := #[] }
def k1m3 : Method := { name := "same", desc := "(II)Z", sig := { parameters := [.int, .int], returnType := some .boolean }, accessFlags := 10, code := some k1c3 }
def k1c4 : Code := { maxStack := 4, maxLocals := 11, code := code, exceptionTable := #[], attributes := #[] }
def k1m4 : Method := { name := "law", desc := "(IIIII)Z", sig := { parameters := [.int, .int, .int, .int, .int], returnType := some .boolean }, accessFlags := 9, code := some k1c4 }
/-- com/example/comb/comb/io/TopicEqualsPinLaw -/
def k1 : Class := { plain "com/example/comb/comb/io/TopicEqualsPinLaw" (some 0) with
  accessFlags := 49
  interfaces := #[]
  cf := some (fileOf pool1 8 #[] #[{ accessFlags := 1, nameIndex := 5, descriptorIndex := 6, attributes := #[] }, { accessFlags := 10, nameIndex := 11, descriptorIndex := 12, attributes := #[] }, { accessFlags := 10, nameIndex := 22, descriptorIndex := 23, attributes := #[] }, { accessFlags := 10, nameIndex := 29, descriptorIndex := 30, attributes := #[] }, { accessFlags := 9, nameIndex := 38, descriptorIndex := 39, attributes := #[] }] 49 2 #[] #[])
  fields := #[]
  methods := #[k1m0, k1m1, k1m2, k1m3, k1m4]
  instanceTypes := #[]
  staticTypes := #[]
  resolved := Array.replicate 42 none
  statics := none }

def pool2 : Array CpInfo := pool [(1, .methodref 2 3), (0, .class_ 4), (0, .nameAndType 5 6), (0, u "java/lang/Object"), (0, u "<init>"), (0, u "()V"), (0, .string 8), (0, u "id"), (0, .methodref 10 11), (0, .class_ 12), (0, .nameAndType 13 14), (0, u "java/util/Objects"), (0, u "requireNonNull"), (0, u "(Ljava/lang/Object;Ljava/lang/String;)Ljava/lang/Object;"), (0, .class_ 16), (0, u "java/lang/String"), (0, .fieldref 18 19), (0, .class_ 20), (0, .nameAndType 8 21), (0, u "com/example/comb/comb/io/Topic"), (0, u "Ljava/lang/String;"), (0, .string 23), (0, u "text"), (0, .fieldref 18 25), (0, .nameAndType 23 21), (0, .methodref 15 27), (0, .nameAndType 28 29), (0, u "equals"), (0, u "(Ljava/lang/Object;)Z"), (8, u "(Ljava/lang/String;Ljava/lang/String;)V")] 26

def k2c0 : Code := { maxStack := 3, maxLocals := 3, code := prog_19_method_1_code, exceptionTable := #[], attributes := #[] }
def k2m0 : Method := { name := "<init>", desc := "(Ljava/lang/String;Ljava/lang/String;)V", sig := { parameters := [(.object "java/lang/String"), (.object "java/lang/String")], returnType := none }, accessFlags := 1, code := some k2c0 }
def k2c1 : Code := { maxStack := 2, maxLocals := 3, code := prog_19_method_4_code, exceptionTable := #[], attributes := #[] }
def k2m1 : Method := { name := "equals", desc := "(Ljava/lang/Object;)Z", sig := { parameters := [(.object "java/lang/Object")], returnType := some .boolean }, accessFlags := 1, code := some k2c1 }
/-- com/example/comb/comb/io/Topic -/
def k2 : Class := { plain "com/example/comb/comb/io/Topic" (some 0) with
  accessFlags := 33
  interfaces := #[]
  cf := some (fileOf pool2 18 #[] #[{ accessFlags := 1, nameIndex := 5, descriptorIndex := 38, attributes := #[] }, { accessFlags := 1, nameIndex := 28, descriptorIndex := 29, attributes := #[] }] 33 2 #[] #[{ accessFlags := 18, nameIndex := 8, descriptorIndex := 21, attributes := #[] }, { accessFlags := 18, nameIndex := 23, descriptorIndex := 21, attributes := #[] }])
  fields := #[{ name := "id", type := (.object "java/lang/String"), accessFlags := 18, slot := 0, constantValue := 0 }, { name := "text", type := (.object "java/lang/String"), accessFlags := 18, slot := 1, constantValue := 0 }]
  methods := #[k2m0, k2m1]
  instanceTypes := #[(.object "java/lang/String"), (.object "java/lang/String")]
  staticTypes := #[]
  resolved := Array.replicate 65 none
  statics := none }

def pool3 : Array CpInfo := pool [(1, .class_ 2), (0, u "java/io/Serializable"), (0, .class_ 4), (0, u "java/lang/Object")] 2

/-- java/io/Serializable -/
def k3 : Class := { plain "java/io/Serializable" (some 0) with
  accessFlags := 1537
  interfaces := #[]
  cf := some (fileOf pool3 1 #[] #[] 1537 3 #[] #[])
  fields := #[]
  methods := #[]
  instanceTypes := #[]
  staticTypes := #[]
  resolved := Array.replicate 7 none
  statics := none }

def pool4 : Array CpInfo := pool [(1, .class_ 2), (0, u "java/lang/Comparable"), (0, .class_ 4), (0, u "java/lang/Object")] 7

/-- java/lang/Comparable -/
def k4 : Class := { plain "java/lang/Comparable" (some 0) with
  accessFlags := 1537
  interfaces := #[]
  cf := some (fileOf pool4 1 #[] #[] 1537 3 #[] #[])
  fields := #[]
  methods := #[]
  instanceTypes := #[]
  staticTypes := #[]
  resolved := Array.replicate 12 none
  statics := none }

def pool5 : Array CpInfo := pool [(2, .class_ 4), (1, u "java/lang/CharSequence"), (42, .class_ 48), (0, u "java/lang/CharSequence$1CodePointIterator"), (10, .class_ 60), (0, u "java/lang/CharSequence$1CharIterator"), (5, .class_ 67), (0, u "java/lang/Object")] 63

/-- java/lang/CharSequence -/
def k5 : Class := { plain "java/lang/CharSequence" (some 0) with
  accessFlags := 1537
  interfaces := #[]
  cf := some (fileOf pool5 2 #[.nestMembers #[47, 59]] #[] 1537 66 #[] #[])
  fields := #[]
  methods := #[]
  instanceTypes := #[]
  staticTypes := #[]
  resolved := Array.replicate 131 none
  statics := none }

def pool6 : Array CpInfo := pool [(1, .class_ 2), (0, u "java/lang/constant/Constable"), (0, .class_ 4), (0, u "java/lang/Object")] 6

/-- java/lang/constant/Constable -/
def k6 : Class := { plain "java/lang/constant/Constable" (some 0) with
  accessFlags := 1537
  interfaces := #[]
  cf := some (fileOf pool6 1 #[] #[] 1537 3 #[] #[])
  fields := #[]
  methods := #[]
  instanceTypes := #[]
  staticTypes := #[]
  resolved := Array.replicate 11 none
  statics := none }

def pool7 : Array CpInfo := pool [(1, .class_ 2), (0, u "java/lang/constant/ConstantDesc"), (0, .class_ 4), (0, u "java/lang/Object")] 32

/-- java/lang/constant/ConstantDesc -/
def k7 : Class := { plain "java/lang/constant/ConstantDesc" (some 0) with
  accessFlags := 1537
  interfaces := #[]
  cf := some (fileOf pool7 1 #[] #[] 1537 3 #[] #[])
  fields := #[]
  methods := #[]
  instanceTypes := #[]
  staticTypes := #[]
  resolved := Array.replicate 37 none
  statics := none }

def pool8 : Array CpInfo := pool [(1, .methodref 2 3), (0, .class_ 4), (0, .nameAndType 5 6), (0, u "java/lang/Object"), (0, u "<init>"), (0, u "()V"), (0, .string 8), (0, u ""), (0, .fieldref 10 11), (0, .class_ 12), (0, .nameAndType 13 14), (0, u "java/lang/String"), (0, u "value"), (0, u "[B"), (0, .fieldref 10 16), (0, .nameAndType 17 18), (0, u "coder"), (0, u "B"), (2, u "hash"), (0, u "I"), (2, u "hashIsZero"), (0, u "Z"), (0, .methodref 10 28), (0, .nameAndType 5 29), (0, u "([CIILjava/lang/Void;)V"), (8, .fieldref 10 39), (0, .nameAndType 40 26), (0, u "COMPACT_STRINGS"), (1, .class_ 44), (1, u "java/lang/StringUTF16"), (0, u "compress"), (1, .methodref 42 48), (0, .nameAndType 49 50), (0, u "coderFromArrayLen"), (0, u "([BI)B"), (56, .class_ 109), (1, u "java/lang/StringLatin1"), (67, .methodref 42 178), (0, .nameAndType 45 179), (0, u "([CII)[B"), (361, .methodref 107 542), (0, .nameAndType 543 544), (0, u "equals"), (0, u "([B[B)Z"), (28, u "(Ljava/lang/Object;)Z"), (1, .class_ 576), (0, u "java/lang/CharSequence"), (22, u "CASE_INSENSITIVE_ORDER"), (0, u "Ljava/util/Comparator;"), (409, u "([C)V"), (90, u "serialPersistentFields"), (0, u "[Ljava/io/ObjectStreamField;"), (0, .class_ 1104), (0, u "java/lang/String$CaseInsensitiveComparator"), (1, .class_ 1107), (0, u "java/io/Serializable"), (0, .class_ 1109), (0, u "java/lang/Comparable"), (0, .class_ 1111), (0, u "java/lang/constant/Constable"), (0, .class_ 1113), (0, u "java/lang/constant/ConstantDesc"), (2, u "serialVersionUID"), (0, u "J"), (3, u "REPL"), (0, u "C"), (2, u "LATIN1"), (1, u "UTF16")] 323

def k8m0 : Method := { name := "<init>", desc := "()V", sig := { parameters := [], returnType := none }, accessFlags := 1, code := none }
def k8c1 : Code := { maxStack := 5, maxLocals := 2, code := jdk_42_method_3_code, exceptionTable := #[], attributes := #[] }
def k8m1 : Method := { name := "<init>", desc := "([C)V", sig := { parameters := [(.array .char)], returnType := none }, accessFlags := 1, code := some k8c1 }
def k8c2 : Code := { maxStack := 2, maxLocals := 3, code := jdk_42_method_66_code, exceptionTable := #[], attributes := #[] }
def k8m2 : Method := { name := "equals", desc := "(Ljava/lang/Object;)Z", sig := { parameters := [(.object "java/lang/Object")], returnType := some .boolean }, accessFlags := 1, code := some k8c2 }
def k8c3 : Code := { maxStack := 4, maxLocals := 6, code := jdk_42_method_149_code, exceptionTable := #[], attributes := #[] }
def k8m3 : Method := { name := "<init>", desc := "([CIILjava/lang/Void;)V", sig := { parameters := [(.array .char), .int, .int, (.object "java/lang/Void")], returnType := none }, accessFlags := 2, code := some k8c3 }
/-- java/lang/String -/
def k8 : Class := { plain "java/lang/String" (some 0) with
  accessFlags := 49
  interfaces := #[3, 4, 5, 6, 7]
  cf := some (fileOf pool8 10 #[.nestMembers #[1103]] #[{ accessFlags := 1, nameIndex := 5, descriptorIndex := 6, attributes := #[] }, { accessFlags := 1, nameIndex := 5, descriptorIndex := 1010, attributes := #[] }, { accessFlags := 1, nameIndex := 543, descriptorIndex := 573, attributes := #[] }, { accessFlags := 2, nameIndex := 5, descriptorIndex := 29, attributes := #[] }] 49 2 #[1106, 1108, 575, 1110, 1112] #[{ accessFlags := 18, nameIndex := 13, descriptorIndex := 14, attributes := #[] }, { accessFlags := 18, nameIndex := 17, descriptorIndex := 18, attributes := #[] }, { accessFlags := 2, nameIndex := 21, descriptorIndex := 22, attributes := #[] }, { accessFlags := 2, nameIndex := 25, descriptorIndex := 26, attributes := #[] }, { accessFlags := 26, nameIndex := 1116, descriptorIndex := 1117, attributes := #[] }, { accessFlags := 24, nameIndex := 40, descriptorIndex := 26, attributes := #[] }, { accessFlags := 26, nameIndex := 1101, descriptorIndex := 1102, attributes := #[] }, { accessFlags := 26, nameIndex := 1121, descriptorIndex := 1122, attributes := #[] }, { accessFlags := 25, nameIndex := 599, descriptorIndex := 600, attributes := #[] }, { accessFlags := 24, nameIndex := 1125, descriptorIndex := 18, attributes := #[] }, { accessFlags := 24, nameIndex := 1127, descriptorIndex := 18, attributes := #[] }])
  fields := #[{ name := "value", type := (.array .byte), accessFlags := 18, slot := 0, constantValue := 0 }, { name := "coder", type := .byte, accessFlags := 18, slot := 1, constantValue := 0 }, { name := "hash", type := .int, accessFlags := 2, slot := 2, constantValue := 0 }, { name := "hashIsZero", type := .boolean, accessFlags := 2, slot := 3, constantValue := 0 }, { name := "serialVersionUID", type := .long, accessFlags := 26, slot := 0, constantValue := 0 }, { name := "COMPACT_STRINGS", type := .boolean, accessFlags := 24, slot := 1, constantValue := 0 }, { name := "serialPersistentFields", type := (.array (.object "java/io/ObjectStreamField")), accessFlags := 26, slot := 2, constantValue := 0 }, { name := "REPL", type := .char, accessFlags := 26, slot := 3, constantValue := 0 }, { name := "CASE_INSENSITIVE_ORDER", type := (.object "java/util/Comparator"), accessFlags := 25, slot := 4, constantValue := 0 }, { name := "LATIN1", type := .byte, accessFlags := 24, slot := 5, constantValue := 0 }, { name := "UTF16", type := .byte, accessFlags := 24, slot := 6, constantValue := 0 }]
  methods := #[k8m0, k8m1, k8m2, k8m3]
  instanceTypes := #[(.array .byte), .byte, .int, .boolean]
  staticTypes := #[.long, .boolean, (.array (.object "java/io/ObjectStreamField")), .char, (.object "java/util/Comparator"), .byte, .byte]
  resolved := Array.replicate 1451 none
  statics := some 0 }

def pool9 : Array CpInfo := pool [(2, .class_ 4), (1, u "java/lang/Object"), (0, u "<init>"), (0, u "()V"), (35, .class_ 44), (1, u "java/util/Objects"), (0, u "requireNonNull"), (48, u "(Ljava/lang/Object;Ljava/lang/String;)Ljava/lang/Object;")] 89

def k9m0 : Method := { name := "<init>", desc := "()V", sig := { parameters := [], returnType := none }, accessFlags := 2, code := none }
def k9c1 : Code := { maxStack := 3, maxLocals := 2, code := jdk_31_method_11_code, exceptionTable := #[], attributes := #[] }
def k9m1 : Method := { name := "requireNonNull", desc := "(Ljava/lang/Object;Ljava/lang/String;)Ljava/lang/Object;", sig := { parameters := [(.object "java/lang/Object"), (.object "java/lang/String")], returnType := some (.object "java/lang/Object") }, accessFlags := 9, code := some k9c1 }
/-- java/util/Objects -/
def k9 : Class := { plain "java/util/Objects" (some 0) with
  accessFlags := 49
  interfaces := #[]
  cf := some (fileOf pool9 42 #[] #[{ accessFlags := 2, nameIndex := 5, descriptorIndex := 6, attributes := #[] }, { accessFlags := 9, nameIndex := 45, descriptorIndex := 94, attributes := #[] }] 49 2 #[] #[])
  fields := #[]
  methods := #[k9m0, k9m1]
  instanceTypes := #[]
  staticTypes := #[]
  resolved := Array.replicate 184 none
  statics := none }

def pool10 : Array CpInfo := pool [(4, .class_ 6), (1, u "java/lang/Object"), (0, u "<init>"), (0, u "()V"), (5, .class_ 16), (1, u "java/lang/StringLatin1"), (104, u "$assertionsDisabled"), (0, u "Z"), (98, .class_ 223), (1, u "java/lang/StringLatin1$LinesSpliterator"), (57, u "equals"), (0, u "([B[B)Z"), (107, .class_ 391), (0, u "java/lang/StringLatin1$CharsSpliterator")] 3

def k10m0 : Method := { name := "<init>", desc := "()V", sig := { parameters := [], returnType := none }, accessFlags := 0, code := none }
def k10c1 : Code := { maxStack := 3, maxLocals := 3, code := jdk_43_method_13_code, exceptionTable := #[], attributes := #[] }
def k10m1 : Method := { name := "equals", desc := "([B[B)Z", sig := { parameters := [(.array .byte), (.array .byte)], returnType := some .boolean }, accessFlags := 9, code := some k10c1 }
/-- java/lang/StringLatin1 -/
def k10 : Class := { plain "java/lang/StringLatin1" (some 0) with
  accessFlags := 48
  interfaces := #[]
  cf := some (fileOf pool10 14 #[.nestMembers #[390, 221]] #[{ accessFlags := 0, nameIndex := 7, descriptorIndex := 8, attributes := #[] }, { accessFlags := 9, nameIndex := 281, descriptorIndex := 282, attributes := #[] }] 48 4 #[] #[{ accessFlags := 4120, nameIndex := 121, descriptorIndex := 122, attributes := #[] }])
  fields := #[{ name := "$assertionsDisabled", type := .boolean, accessFlags := 4120, slot := 0, constantValue := 0 }]
  methods := #[k10m0, k10m1]
  instanceTypes := #[]
  staticTypes := #[.boolean]
  resolved := Array.replicate 395 none
  statics := none }

def pool11 : Array CpInfo := pool [(6, .class_ 8), (1, u "java/lang/Object"), (0, u "<init>"), (0, u "()V"), (1, .class_ 14), (1, u "java/lang/StringUTF16"), (31, u "$assertionsDisabled"), (0, u "Z"), (13, u "HI_BYTE_SHIFT"), (0, u "I"), (2, u "LO_BYTE_SHIFT"), (49, .methodref 12 116), (0, .nameAndType 117 118), (0, u "compress"), (0, u "([CI[BII)I"), (3, u "([CII)[B"), (138, u "coderFromArrayLen"), (0, u "([BI)B"), (106, .class_ 371), (1, u "java/lang/StringUTF16$LinesSpliterator"), (58, u "MAX_LENGTH"), (196, .class_ 628), (0, u "java/lang/StringUTF16$CodePointsSpliterator"), (0, .class_ 630), (0, u "java/lang/StringUTF16$CharsSpliterator")] 4

def k11m0 : Method := { name := "<init>", desc := "()V", sig := { parameters := [], returnType := none }, accessFlags := 0, code := none }
def k11c1 : Code := { maxStack := 2, maxLocals := 2, code := jdk_52_method_15_code, exceptionTable := #[], attributes := #[] }
def k11m1 : Method := { name := "coderFromArrayLen", desc := "([BI)B", sig := { parameters := [(.array .byte), .int], returnType := some .byte }, accessFlags := 8, code := some k11c1 }
def k11c2 : Code := { maxStack := 5, maxLocals := 6, code := jdk_52_method_16_code, exceptionTable := #[], attributes := #[] }
def k11m2 : Method := { name := "compress", desc := "([CII)[B", sig := { parameters := [(.array .char), .int, .int], returnType := some (.array .byte) }, accessFlags := 9, code := some k11c2 }
def k11c3 : Code := { maxStack := 3, maxLocals := 7, code := jdk_52_method_21_code, exceptionTable := #[], attributes := #[] }
def k11m3 : Method := { name := "compress", desc := "([CI[BII)I", sig := { parameters := [(.array .char), .int, (.array .byte), .int, .int], returnType := some .int }, accessFlags := 9, code := some k11c3 }
/-- java/lang/StringUTF16 -/
def k11 : Class := { plain "java/lang/StringUTF16" (some 0) with
  accessFlags := 48
  interfaces := #[]
  cf := some (fileOf pool11 12 #[.nestMembers #[627, 629, 369]] #[{ accessFlags := 0, nameIndex := 9, descriptorIndex := 10, attributes := #[] }, { accessFlags := 8, nameIndex := 261, descriptorIndex := 262, attributes := #[] }, { accessFlags := 9, nameIndex := 117, descriptorIndex := 122, attributes := #[] }, { accessFlags := 9, nameIndex := 117, descriptorIndex := 118, attributes := #[] }] 48 6 #[] #[{ accessFlags := 26, nameIndex := 61, descriptorIndex := 62, attributes := #[] }, { accessFlags := 26, nameIndex := 65, descriptorIndex := 62, attributes := #[] }, { accessFlags := 24, nameIndex := 430, descriptorIndex := 62, attributes := #[] }, { accessFlags := 4120, nameIndex := 46, descriptorIndex := 47, attributes := #[] }])
  fields := #[{ name := "HI_BYTE_SHIFT", type := .int, accessFlags := 26, slot := 0, constantValue := 0 }, { name := "LO_BYTE_SHIFT", type := .int, accessFlags := 26, slot := 1, constantValue := 0 }, { name := "MAX_LENGTH", type := .int, accessFlags := 24, slot := 2, constantValue := 0 }, { name := "$assertionsDisabled", type := .boolean, accessFlags := 4120, slot := 3, constantValue := 0 }]
  methods := #[k11m0, k11m1, k11m2, k11m3]
  instanceTypes := #[]
  staticTypes := #[.int, .int, .int, .boolean]
  resolved := Array.replicate 635 none
  statics := none }

def pool12 : Array CpInfo := pool [(2, .class_ 4), (1, u "java/lang/Object"), (0, u "<init>"), (0, u "()V"), (17, .class_ 26), (1, u "jdk/internal/util/Preconditions"), (28, .class_ 56), (0, u "jdk/internal/util/Preconditions$4"), (57, .class_ 115), (0, u "jdk/internal/util/Preconditions$1"), (7, u "SIOOBE_FORMATTER"), (0, u "Ljava/util/function/BiFunction;"), (0, .class_ 126), (0, u "jdk/internal/util/Preconditions$2"), (3, u "AIOOBE_FORMATTER"), (0, .class_ 132), (0, u "jdk/internal/util/Preconditions$3"), (3, u "IOOBE_FORMATTER")] 57

def k12m0 : Method := { name := "<init>", desc := "()V", sig := { parameters := [], returnType := none }, accessFlags := 1, code := none }
/-- jdk/internal/util/Preconditions -/
def k12 : Class := { plain "jdk/internal/util/Preconditions" (some 0) with
  accessFlags := 33
  interfaces := #[]
  cf := some (fileOf pool12 24 #[.nestMembers #[55, 131, 125, 114]] #[{ accessFlags := 1, nameIndex := 5, descriptorIndex := 6, attributes := #[] }] 33 2 #[] #[{ accessFlags := 25, nameIndex := 123, descriptorIndex := 124, attributes := #[] }, { accessFlags := 25, nameIndex := 130, descriptorIndex := 124, attributes := #[] }, { accessFlags := 25, nameIndex := 136, descriptorIndex := 124, attributes := #[] }])
  fields := #[{ name := "SIOOBE_FORMATTER", type := (.object "java/util/function/BiFunction"), accessFlags := 25, slot := 0, constantValue := 0 }, { name := "AIOOBE_FORMATTER", type := (.object "java/util/function/BiFunction"), accessFlags := 25, slot := 1, constantValue := 0 }, { name := "IOOBE_FORMATTER", type := (.object "java/util/function/BiFunction"), accessFlags := 25, slot := 2, constantValue := 0 }]
  methods := #[k12m0]
  instanceTypes := #[]
  staticTypes := #[(.object "java/util/function/BiFunction"), (.object "java/util/function/BiFunction"), (.object "java/util/function/BiFunction")]
  resolved := Array.replicate 194 none
  statics := some 1 }

def pool13 : Array CpInfo := pool [(9, u "<init>"), (6, .class_ 18), (1, u "java/lang/Object"), (0, u "()V"), (1, .class_ 23), (1, u "jdk/internal/util/ArraysSupport"), (0, u "LOG2_ARRAY_LONG_INDEX_SCALE"), (0, u "I"), (2, u "U"), (0, u "Ljdk/internal/misc/Unsafe;"), (8, u "BIG_ENDIAN"), (0, u "Z"), (8, u "LOG2_BYTE_BIT_SIZE"), (4, u "LOG2_ARRAY_INT_INDEX_SCALE"), (54, u "JLA"), (0, u "Ljdk/internal/access/JavaLangAccess;"), (11, u "LOG2_ARRAY_BOOLEAN_INDEX_SCALE"), (9, u "LOG2_ARRAY_BYTE_INDEX_SCALE"), (5, u "LOG2_ARRAY_CHAR_INDEX_SCALE"), (5, u "LOG2_ARRAY_SHORT_INDEX_SCALE"), (18, u "LOG2_ARRAY_FLOAT_INDEX_SCALE"), (24, u "LOG2_ARRAY_DOUBLE_INDEX_SCALE"), (89, u "T_BOOLEAN"), (2, u "T_CHAR"), (1, u "T_FLOAT"), (1, u "T_DOUBLE"), (1, u "T_BYTE"), (1, u "T_SHORT"), (1, u "T_INT"), (1, u "T_LONG"), (1, u "SOFT_MAX_ARRAY_LENGTH")] 83

def k13m0 : Method := { name := "<init>", desc := "()V", sig := { parameters := [], returnType := none }, accessFlags := 2, code := none }
/-- jdk/internal/util/ArraysSupport -/
def k13 : Class := { plain "jdk/internal/util/ArraysSupport" (some 0) with
  accessFlags := 33
  interfaces := #[]
  cf := some (fileOf pool13 21 #[] #[{ accessFlags := 2, nameIndex := 9, descriptorIndex := 19, attributes := #[] }] 33 16 #[] #[{ accessFlags := 24, nameIndex := 28, descriptorIndex := 29, attributes := #[] }, { accessFlags := 26, nameIndex := 38, descriptorIndex := 39, attributes := #[] }, { accessFlags := 25, nameIndex := 121, descriptorIndex := 25, attributes := #[] }, { accessFlags := 25, nameIndex := 131, descriptorIndex := 25, attributes := #[] }, { accessFlags := 25, nameIndex := 137, descriptorIndex := 25, attributes := #[] }, { accessFlags := 25, nameIndex := 143, descriptorIndex := 25, attributes := #[] }, { accessFlags := 25, nameIndex := 53, descriptorIndex := 25, attributes := #[] }, { accessFlags := 25, nameIndex := 24, descriptorIndex := 25, attributes := #[] }, { accessFlags := 25, nameIndex := 162, descriptorIndex := 25, attributes := #[] }, { accessFlags := 25, nameIndex := 187, descriptorIndex := 25, attributes := #[] }, { accessFlags := 26, nameIndex := 48, descriptorIndex := 25, attributes := #[] }, { accessFlags := 25, nameIndex := 277, descriptorIndex := 25, attributes := #[] }, { accessFlags := 25, nameIndex := 280, descriptorIndex := 25, attributes := #[] }, { accessFlags := 25, nameIndex := 282, descriptorIndex := 25, attributes := #[] }, { accessFlags := 25, nameIndex := 284, descriptorIndex := 25, attributes := #[] }, { accessFlags := 25, nameIndex := 286, descriptorIndex := 25, attributes := #[] }, { accessFlags := 25, nameIndex := 288, descriptorIndex := 25, attributes := #[] }, { accessFlags := 25, nameIndex := 290, descriptorIndex := 25, attributes := #[] }, { accessFlags := 25, nameIndex := 292, descriptorIndex := 25, attributes := #[] }, { accessFlags := 26, nameIndex := 108, descriptorIndex := 109, attributes := #[] }, { accessFlags := 25, nameIndex := 294, descriptorIndex := 25, attributes := #[] }])
  fields := #[{ name := "U", type := (.object "jdk/internal/misc/Unsafe"), accessFlags := 24, slot := 0, constantValue := 0 }, { name := "BIG_ENDIAN", type := .boolean, accessFlags := 26, slot := 1, constantValue := 0 }, { name := "LOG2_ARRAY_BOOLEAN_INDEX_SCALE", type := .int, accessFlags := 25, slot := 2, constantValue := 0 }, { name := "LOG2_ARRAY_BYTE_INDEX_SCALE", type := .int, accessFlags := 25, slot := 3, constantValue := 0 }, { name := "LOG2_ARRAY_CHAR_INDEX_SCALE", type := .int, accessFlags := 25, slot := 4, constantValue := 0 }, { name := "LOG2_ARRAY_SHORT_INDEX_SCALE", type := .int, accessFlags := 25, slot := 5, constantValue := 0 }, { name := "LOG2_ARRAY_INT_INDEX_SCALE", type := .int, accessFlags := 25, slot := 6, constantValue := 0 }, { name := "LOG2_ARRAY_LONG_INDEX_SCALE", type := .int, accessFlags := 25, slot := 7, constantValue := 0 }, { name := "LOG2_ARRAY_FLOAT_INDEX_SCALE", type := .int, accessFlags := 25, slot := 8, constantValue := 0 }, { name := "LOG2_ARRAY_DOUBLE_INDEX_SCALE", type := .int, accessFlags := 25, slot := 9, constantValue := 0 }, { name := "LOG2_BYTE_BIT_SIZE", type := .int, accessFlags := 26, slot := 10, constantValue := 0 }, { name := "T_BOOLEAN", type := .int, accessFlags := 25, slot := 11, constantValue := 0 }, { name := "T_CHAR", type := .int, accessFlags := 25, slot := 12, constantValue := 0 }, { name := "T_FLOAT", type := .int, accessFlags := 25, slot := 13, constantValue := 0 }, { name := "T_DOUBLE", type := .int, accessFlags := 25, slot := 14, constantValue := 0 }, { name := "T_BYTE", type := .int, accessFlags := 25, slot := 15, constantValue := 0 }, { name := "T_SHORT", type := .int, accessFlags := 25, slot := 16, constantValue := 0 }, { name := "T_INT", type := .int, accessFlags := 25, slot := 17, constantValue := 0 }, { name := "T_LONG", type := .int, accessFlags := 25, slot := 18, constantValue := 0 }, { name := "JLA", type := (.object "jdk/internal/access/JavaLangAccess"), accessFlags := 26, slot := 19, constantValue := 0 }, { name := "SOFT_MAX_ARRAY_LENGTH", type := .int, accessFlags := 25, slot := 20, constantValue := 0 }]
  methods := #[k13m0]
  instanceTypes := #[]
  staticTypes := #[(.object "jdk/internal/misc/Unsafe"), .boolean, .int, .int, .int, .int, .int, .int, .int, .int, .int, .int, .int, .int, .int, .int, .int, .int, .int, (.object "jdk/internal/access/JavaLangAccess"), .int]
  resolved := Array.replicate 378 none
  statics := none }

def pool14 : Array CpInfo := pool [(1, u "java/lang/Cloneable"), (0, .class_ 1), (0, u "java/lang/Object"), (0, .class_ 3)] 3

/-- java/lang/Cloneable -/
def k14 : Class := { plain "java/lang/Cloneable" (some 0) with
  accessFlags := 1537
  interfaces := #[]
  cf := some (fileOf pool14 2 #[] #[] 1537 4 #[] #[])
  fields := #[]
  methods := #[]
  instanceTypes := #[]
  staticTypes := #[]
  resolved := Array.replicate 8 none
  statics := none }

/-- the primitive byte -/
def k15 : Class := { plain "byte" none with kind := .primitive 'B', accessFlags := 0x411 }
/-- [B -/
def k16 : Class := { plain "[B" (some 0) with kind := .array 15 .byte, interfaces := #[14, 3], accessFlags := 1041 }

/-- the primitive char -/
def k17 : Class := { plain "char" none with kind := .primitive 'C', accessFlags := 0x411 }
/-- [C -/
def k18 : Class := { plain "[C" (some 0) with kind := .array 17 .char, interfaces := #[14, 3], accessFlags := 1041 }

/-- the primitive int -/
def k19 : Class := { plain "int" none with kind := .primitive 'I', accessFlags := 0x411 }
/-- [I -/
def k20 : Class := { plain "[I" (some 0) with kind := .array 19 .int, interfaces := #[14, 3], accessFlags := 1041 }

def heap : Heap := #[{ cls := 8, slots := #[.long 0, .int 1, .null, .int 0, .null, .int 0, .int 0], vm := .statics 8 },
  { cls := 12, slots := #[.null, .null, .null], vm := .statics 12 }]
def classes : Array Class := #[k0, k1, k2, k3, k4, k5, k6, k7, k8, k9, k10, k11, k12, k13, k14, k15, k16, k17, k18, k19, k20]
def interned : List (Array UInt16 × Addr) := []
def slotsUsed : Nat := 10
def theMethod : MethodId := ⟨1, 4⟩
def args0 : Array Value := #[.int 5, .int 6, .int 7, .int 9, .int 3]
def aboutOver (below : List Frame) : State where
  vm := { classes := classes, interned := interned.toArray }
  heap := heap
  slotsUsed := slotsUsed
  threads := #[{ frames := .invoking theMethod args0 :: below }]
def below0 : List Frame := [.native { method := ⟨0, 0⟩, args := #[] }]
def about1 : State := aboutOver below0
def p0 : Program := .bare "" "" ""
def e0 : Env := launch0.env 0 0 0
theorem w_frames : about1.frames = Frame.invoking theMethod args0 :: below0 := rfl
set_option maxRecDepth 65536 in
theorem w_args : argsFit about1.vm theMethod args0 = true := by decide +kernel
set_option maxRecDepth 65536 in
theorem w_heap : heapFits about1 = true := by decide +kernel
set_option maxRecDepth 65536 in
theorem w_runnable : about1.curStatus? = some .runnable := by decide +kernel
set_option maxRecDepth 65536 in
theorem w_alone : about1.alone = true := by decide +kernel
set_option maxRecDepth 65536 in
theorem w_named : about1.methodNamed? x = some theMethod := by decide +kernel
set_option maxRecDepth 65536 in
theorem w_hears : about1.hears theMethod below0 = true := by decide +kernel
set_option maxRecDepth 65536 in
theorem w_ripe : about1.ripe theMethod args0 below0 = true := by decide +kernel
theorem w_running : about1.status = .running := rfl
set_option maxRecDepth 65536 in
theorem w_room : about1.hasRoom e0.platform room_1 = true :=
  launch0.hasRoom_least _ room_1 (by decide +kernel) (by decide +kernel) (by decide +kernel) (by decide +kernel) (by decide +kernel) (by decide +kernel)
theorem allAtoms_all (ts : List Jvm.Cond) (a : Array Jvm.Value) (st : Jvm.State) : (allAtoms ts).before a st = ts.all (fun c => c.before a st) := by
  induction ts with
  | nil => rfl
  | cons c t ih =>
    show (Jvm.Cond.and c (allAtoms t)).before a st = _
    rw [Jvm.Cond.before_and, ih, List.all_cons]
def words1 : List Jvm.Cond := Jvm.Cond.code x code maxLocals ret :: tables_1
/-- a 'code' word, met by the world's own term for the bytes: nothing is compared byte by byte -/
theorem code_word {y : MethodName} {bytes : ByteArray} {mx : Nat} {rt : Option FieldType} {a : Array Value} {s : State} {m : MethodId} {meth : Method} {c : Code} (h1 : s.methodNamed? y = some m) (h2 : s.vm.method? m = some meth) (h3 : meth.code = some c) (h4 : c.code = bytes)
    (h5 : (c.maxLocals == mx && c.exceptionTable.isEmpty && decide (c.maxStack ≤ mostOperands) && decide (meth.sig.returnType = rt) && !meth.locks && decide (parseMethodDescriptor y.desc = some meth.sig)) = true) : (Jvm.Cond.code y bytes mx rt).before a s = true := by
  simp only [Bool.and_eq_true, beq_iff_eq, Bool.not_eq_true', decide_eq_true_eq] at h5
  obtain ⟨⟨⟨⟨⟨g1, g2⟩, g3⟩, g4⟩, g5⟩, g6⟩ := h5
  simp [Cond.before, Cond.holds, Cond.value, h1, h2, h3, h4, g1, g2, g3, g4, g5, g6]
def isCode : Jvm.Cond → Bool
  | .code _ _ _ _ => true
  | _ => false
theorem all_split {L : List Jvm.Cond} {P : Jvm.Cond → Bool} (h1 : L.all (fun c => isCode c || P c) = true) (h2 : ∀ c ∈ L.filter isCode, P c = true) : L.all P = true := by
  refine List.all_eq_true.mpr fun c hc => ?_
  have h := List.all_eq_true.mp h1 c hc
  rcases Bool.eq_false_or_eq_true (isCode c) with hi | hi
  · exact h2 c (List.mem_filter.mpr ⟨hc, hi⟩)
  · simpa [hi] using h
set_option maxRecDepth 65536 in
theorem w_c0 : (Jvm.Cond.code x code maxLocals ret).before args0 about1 = true := code_word (m := ⟨1, 4⟩) (meth := k1m4) (c := k1c4) (by decide +kernel) rfl rfl rfl (by decide +kernel)
set_option maxRecDepth 65536 in
theorem w_c1 : (Jvm.Cond.code ({ cls := "com/example/comb/comb/io/TopicEqualsPinLaw", name := "mk", desc := "(I)Ljava/lang/String;" } : Jvm.MethodName) method_3_code (5 : Nat) (Option.some (Jvm.ClassFile.FieldType.object "java/lang/String"))).before args0 about1 = true := code_word (m := ⟨1, 2⟩) (meth := k1m2) (c := k1c2) (by decide +kernel) rfl rfl rfl (by decide +kernel)
set_option maxRecDepth 65536 in
theorem w_c2 : (Jvm.Cond.code ({ cls := "com/example/comb/comb/io/TopicEqualsPinLaw", name := "len", desc := "(I)I" } : Jvm.MethodName) method_2_code (1 : Nat) (Option.some Jvm.ClassFile.FieldType.int)).before args0 about1 = true := code_word (m := ⟨1, 1⟩) (meth := k1m1) (c := k1c1) (by decide +kernel) rfl rfl rfl (by decide +kernel)
set_option maxRecDepth 65536 in
theorem w_c3 : (Jvm.Cond.code ({ cls := "java/lang/String", name := "<init>", desc := "([C)V" } : Jvm.MethodName) jdk_42_method_3_code (2 : Nat) (Option.none : Option Jvm.ClassFile.FieldType)).before args0 about1 = true := code_word (m := ⟨8, 1⟩) (meth := k8m1) (c := k8c1) (by decide +kernel) rfl rfl rfl (by decide +kernel)
set_option maxRecDepth 65536 in
theorem w_c4 : (Jvm.Cond.code ({ cls := "java/lang/String", name := "<init>", desc := "([CIILjava/lang/Void;)V" } : Jvm.MethodName) jdk_42_method_149_code (6 : Nat) (Option.none : Option Jvm.ClassFile.FieldType)).before args0 about1 = true := code_word (m := ⟨8, 3⟩) (meth := k8m3) (c := k8c3) (by decide +kernel) rfl rfl rfl (by decide +kernel)
set_option maxRecDepth 65536 in
theorem w_c5 : (Jvm.Cond.code ({ cls := "java/lang/Object", name := "<init>", desc := "()V" } : Jvm.MethodName) object_method_1_code (1 : Nat) (Option.none : Option Jvm.ClassFile.FieldType)).before args0 about1 = true := code_word (m := ⟨0, 0⟩) (meth := k0m0) (c := k0c0) (by decide +kernel) rfl rfl rfl (by decide +kernel)
set_option maxRecDepth 65536 in
theorem w_c6 : (Jvm.Cond.code ({ cls := "com/example/comb/comb/io/Topic", name := "<init>", desc := "(Ljava/lang/String;Ljava/lang/String;)V" } : Jvm.MethodName) prog_19_method_1_code (3 : Nat) (Option.none : Option Jvm.ClassFile.FieldType)).before args0 about1 = true := code_word (m := ⟨2, 0⟩) (meth := k2m0) (c := k2c0) (by decide +kernel) rfl rfl rfl (by decide +kernel)
set_option maxRecDepth 65536 in
theorem w_c7 : (Jvm.Cond.code ({ cls := "java/util/Objects", name := "requireNonNull", desc := "(Ljava/lang/Object;Ljava/lang/String;)Ljava/lang/Object;" } : Jvm.MethodName) jdk_31_method_11_code (2 : Nat) (Option.some (Jvm.ClassFile.FieldType.object "java/lang/Object"))).before args0 about1 = true := code_word (m := ⟨9, 1⟩) (meth := k9m1) (c := k9c1) (by decide +kernel) rfl rfl rfl (by decide +kernel)
set_option maxRecDepth 65536 in
theorem w_c8 : (Jvm.Cond.code ({ cls := "com/example/comb/comb/io/TopicEqualsPinLaw", name := "same", desc := "(II)Z" } : Jvm.MethodName) method_4_code (3 : Nat) (Option.some Jvm.ClassFile.FieldType.boolean)).before args0 about1 = true := code_word (m := ⟨1, 3⟩) (meth := k1m3) (c := k1c3) (by decide +kernel) rfl rfl rfl (by decide +kernel)
set_option maxRecDepth 65536 in
theorem w_c9 : (Jvm.Cond.code ({ cls := "com/example/comb/comb/io/Topic", name := "equals", desc := "(Ljava/lang/Object;)Z" } : Jvm.MethodName) prog_19_method_4_code (3 : Nat) (Option.some Jvm.ClassFile.FieldType.boolean)).before args0 about1 = true := code_word (m := ⟨2, 1⟩) (meth := k2m1) (c := k2c1) (by decide +kernel) rfl rfl rfl (by decide +kernel)
set_option maxRecDepth 65536 in
theorem w_c10 : (Jvm.Cond.code ({ cls := "java/lang/String", name := "equals", desc := "(Ljava/lang/Object;)Z" } : Jvm.MethodName) jdk_42_method_66_code (3 : Nat) (Option.some Jvm.ClassFile.FieldType.boolean)).before args0 about1 = true := code_word (m := ⟨8, 2⟩) (meth := k8m2) (c := k8c2) (by decide +kernel) rfl rfl rfl (by decide +kernel)
set_option maxRecDepth 65536 in
theorem w_c11 : (Jvm.Cond.code ({ cls := "java/lang/StringLatin1", name := "equals", desc := "([B[B)Z" } : Jvm.MethodName) jdk_43_method_13_code (3 : Nat) (Option.some Jvm.ClassFile.FieldType.boolean)).before args0 about1 = true := code_word (m := ⟨10, 1⟩) (meth := k10m1) (c := k10c1) (by decide +kernel) rfl rfl rfl (by decide +kernel)
set_option maxRecDepth 65536 in
theorem w_c12 : (Jvm.Cond.code ({ cls := "java/lang/StringUTF16", name := "compress", desc := "([CII)[B" } : Jvm.MethodName) jdk_52_method_16_code (6 : Nat) (Option.some (Jvm.ClassFile.FieldType.array Jvm.ClassFile.FieldType.byte))).before args0 about1 = true := code_word (m := ⟨11, 2⟩) (meth := k11m2) (c := k11c2) (by decide +kernel) rfl rfl rfl (by decide +kernel)
set_option maxRecDepth 65536 in
theorem w_c13 : (Jvm.Cond.code ({ cls := "java/lang/StringUTF16", name := "compress", desc := "([CI[BII)I" } : Jvm.MethodName) jdk_52_method_21_code (7 : Nat) (Option.some Jvm.ClassFile.FieldType.int)).before args0 about1 = true := code_word (m := ⟨11, 3⟩) (meth := k11m3) (c := k11c3) (by decide +kernel) rfl rfl rfl (by decide +kernel)
set_option maxRecDepth 65536 in
theorem w_c14 : (Jvm.Cond.code ({ cls := "java/lang/StringUTF16", name := "coderFromArrayLen", desc := "([BI)B" } : Jvm.MethodName) jdk_52_method_15_code (2 : Nat) (Option.some Jvm.ClassFile.FieldType.byte)).before args0 about1 = true := code_word (m := ⟨11, 1⟩) (meth := k11m1) (c := k11c1) (by decide +kernel) rfl rfl rfl (by decide +kernel)
def codes1 : List Jvm.Cond := [Jvm.Cond.code x code maxLocals ret, Jvm.Cond.code ({ cls := "com/example/comb/comb/io/TopicEqualsPinLaw", name := "mk", desc := "(I)Ljava/lang/String;" } : Jvm.MethodName) method_3_code (5 : Nat) (Option.some (Jvm.ClassFile.FieldType.object "java/lang/String")), Jvm.Cond.code ({ cls := "com/example/comb/comb/io/TopicEqualsPinLaw", name := "len", desc := "(I)I" } : Jvm.MethodName) method_2_code (1 : Nat) (Option.some Jvm.ClassFile.FieldType.int), Jvm.Cond.code ({ cls := "java/lang/String", name := "<init>", desc := "([C)V" } : Jvm.MethodName) jdk_42_method_3_code (2 : Nat) (Option.none : Option Jvm.ClassFile.FieldType), Jvm.Cond.code ({ cls := "java/lang/String", name := "<init>", desc := "([CIILjava/lang/Void;)V" } : Jvm.MethodName) jdk_42_method_149_code (6 : Nat) (Option.none : Option Jvm.ClassFile.FieldType), Jvm.Cond.code ({ cls := "java/lang/Object", name := "<init>", desc := "()V" } : Jvm.MethodName) object_method_1_code (1 : Nat) (Option.none : Option Jvm.ClassFile.FieldType), Jvm.Cond.code ({ cls := "com/example/comb/comb/io/Topic", name := "<init>", desc := "(Ljava/lang/String;Ljava/lang/String;)V" } : Jvm.MethodName) prog_19_method_1_code (3 : Nat) (Option.none : Option Jvm.ClassFile.FieldType), Jvm.Cond.code ({ cls := "java/util/Objects", name := "requireNonNull", desc := "(Ljava/lang/Object;Ljava/lang/String;)Ljava/lang/Object;" } : Jvm.MethodName) jdk_31_method_11_code (2 : Nat) (Option.some (Jvm.ClassFile.FieldType.object "java/lang/Object")), Jvm.Cond.code ({ cls := "com/example/comb/comb/io/TopicEqualsPinLaw", name := "same", desc := "(II)Z" } : Jvm.MethodName) method_4_code (3 : Nat) (Option.some Jvm.ClassFile.FieldType.boolean), Jvm.Cond.code ({ cls := "com/example/comb/comb/io/Topic", name := "equals", desc := "(Ljava/lang/Object;)Z" } : Jvm.MethodName) prog_19_method_4_code (3 : Nat) (Option.some Jvm.ClassFile.FieldType.boolean), Jvm.Cond.code ({ cls := "java/lang/String", name := "equals", desc := "(Ljava/lang/Object;)Z" } : Jvm.MethodName) jdk_42_method_66_code (3 : Nat) (Option.some Jvm.ClassFile.FieldType.boolean), Jvm.Cond.code ({ cls := "java/lang/StringLatin1", name := "equals", desc := "([B[B)Z" } : Jvm.MethodName) jdk_43_method_13_code (3 : Nat) (Option.some Jvm.ClassFile.FieldType.boolean), Jvm.Cond.code ({ cls := "java/lang/StringUTF16", name := "compress", desc := "([CII)[B" } : Jvm.MethodName) jdk_52_method_16_code (6 : Nat) (Option.some (Jvm.ClassFile.FieldType.array Jvm.ClassFile.FieldType.byte)), Jvm.Cond.code ({ cls := "java/lang/StringUTF16", name := "compress", desc := "([CI[BII)I" } : Jvm.MethodName) jdk_52_method_21_code (7 : Nat) (Option.some Jvm.ClassFile.FieldType.int), Jvm.Cond.code ({ cls := "java/lang/StringUTF16", name := "coderFromArrayLen", desc := "([BI)B" } : Jvm.MethodName) jdk_52_method_15_code (2 : Nat) (Option.some Jvm.ClassFile.FieldType.byte)]
set_option maxRecDepth 65536 in
theorem codes_eq : words1.filter isCode = codes1 := rfl
theorem w_codes : ∀ c ∈ words1.filter isCode, c.before args0 about1 = true := by
  rw [codes_eq]
  intro c hc
  simp only [codes1, List.mem_cons, List.not_mem_nil, or_false] at hc
  rcases hc with rfl | rfl | rfl | rfl | rfl | rfl | rfl | rfl | rfl | rfl | rfl | rfl | rfl | rfl | rfl
  · exact w_c0
  · exact w_c1
  · exact w_c2
  · exact w_c3
  · exact w_c4
  · exact w_c5
  · exact w_c6
  · exact w_c7
  · exact w_c8
  · exact w_c9
  · exact w_c10
  · exact w_c11
  · exact w_c12
  · exact w_c13
  · exact w_c14
set_option maxRecDepth 65536 in
theorem w_t1 : (words1.take 24).all (fun c => isCode c || c.before args0 about1) = true := by decide +kernel
set_option maxRecDepth 65536 in
theorem w_t2 : ((words1.drop 24).take 24).all (fun c => isCode c || c.before args0 about1) = true := by decide +kernel
set_option maxRecDepth 65536 in
theorem w_t3 : (((words1.drop 24).drop 24).take 24).all (fun c => isCode c || c.before args0 about1) = true := by decide +kernel
set_option maxRecDepth 65536 in
theorem w_t4 : (((words1.drop 24).drop 24).drop 24).all (fun c => isCode c || c.before args0 about1) = true := by decide +kernel
theorem w_tables : (allAtoms (Jvm.Cond.code x code maxLocals ret :: tables_1)).before args0 about1 = true := by
  rw [allAtoms_all]
  show words1.all (fun c => c.before args0 about1) = true
  refine all_split ?_ w_codes
  rw [← List.take_append_drop 24 words1, List.all_append, w_t1, ← List.take_append_drop 24 (words1.drop 24), List.all_append, w_t2, ← List.take_append_drop 24 ((words1.drop 24).drop 24), List.all_append, w_t3, w_t4]
  rfl
set_option maxRecDepth 65536 in
theorem w_rest : rest_1_c.before args0 about1 = true := by decide +kernel
set_option maxRecDepth 65536 in
theorem w_case : (Jvm.Cond.and given_1 narrow_1).before args0 about1 = true := by decide +kernel
set_option maxRecDepth 65536 in
theorem w_consts : constsHeld consts_1 about1 := Jvm.Lit.constsHeldB_iff.mp (by decide +kernel)
theorem w_applies : (headSpec (Jvm.Cond.code x code maxLocals ret :: tables_1) room_1).applies x e0.platform about1 = true :=
  (Spec.applies_iff w_frames).mpr ⟨w_running, w_runnable, w_alone, w_named, w_hears, w_ripe, w_room, w_tables⟩
theorem atStart : AtStart classFile x code maxLocals ret World_1 tables_1 room_1 Calls_1 rest_1 Pre_1 launch0 p0 e0 about1 theMethod args0 below0 :=
  ⟨lists_1, trivial, launch0.admits_env _ _ _, launch0.least_env, fairChoices_fair.cas, fairChoices_fair.clock, w_frames, w_args, w_heap, w_applies, ⟨w_consts, trivial⟩, w_rest, w_case⟩
end start1
theorem witness_1 : WitnessClaimed_1 := ⟨start1.p0, start1.e0, start1.about1, start1.theMethod, start1.args0, start1.below0, start1.atStart⟩
end Jvm.Pilot.@@N@@
