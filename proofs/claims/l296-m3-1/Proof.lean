import JvmDerived
import JvmDerived.Pilot.@@N@@Statement
import JvmDerived.Pilot.@@N@@Code
set_option linter.unusedVariables false
set_option linter.unusedSimpArgs false


namespace Jvm.RoadKit
open Sem ClassFile Op Lib Jvm.Stand Jvm.Free Jvm.LawKit
section Own
variable {Z : State} {h h0 h' : Heap} {a b : Addr} {k : ClassId} {n j : Int32} {vs : List Value} {dv : Value}
theorem Arv.inb {ty : FieldType} (A : Arv Z h a k ty n vs dv) (h1 : ¬ j < 0) (h2 : j < n) : ∃ c, Arr Z h a c ty ∧ c.cls = k ∧ c.slots.size = n.toNatClampNeg ∧ ¬ n < 0 ∧ Has c vs dv ∧ (∀ i, i < c.slots.size → fits ty (vs.getD i dv) = true) ∧ ¬ (j < 0 ∨ c.slots.size ≤ j.toNatClampNeg) := by
  obtain ⟨c, A1, A2, A3, A4, A5, A6⟩ := A
  exact ⟨c, A1, A2, A3, A4, A5, A6, inb_of A3 ⟨h1, h2⟩⟩
theorem Ext.keepN (E : Ext h0 h) (K : Keep h h' [b]) (q : h0.size ≤ b) : Ext h0 h' := ⟨Nat.le_trans E.1 K.1, fun x c hx => K.2.1 x c (E.2 x c hx) fun z => by
  cases List.mem_singleton.mp z
  exact absurd (Array.getElem?_eq_some_iff.mp hx).1 (Nat.not_lt.mpr q)⟩
theorem Ext.keepL {ws : List Addr} (E : Ext h0 h) (K : Keep h h' ws) (q : ∀ x ∈ ws, h0.size ≤ x) : Ext h0 h' := ⟨Nat.le_trans E.1 K.1, fun x c hx => K.2.1 x c (E.2 x c hx) fun z => absurd (Array.getElem?_eq_some_iff.mp hx).1 (Nat.not_lt.mpr (q x z))⟩
theorem Ext.rfl' : Ext h h := ⟨Nat.le_refl _, fun _ _ q => q⟩
theorem Ext.tr {h1 : Heap} (E : Ext h h1) (E' : Ext h1 h') : Ext h h' := ⟨Nat.le_trans E.1 E'.1, fun x c q => E'.2 x c (E.2 x c q)⟩
theorem Ext.wrN {sl : Nat} {v : Value} (E : Ext h0 h) (W : Wr h h' a sl v) (q : h0.size ≤ a) : Ext h0 h' := E.keepN (Keep.of_wr W) q
end Own
end Jvm.RoadKit

namespace Jvm.OwnKit
open Sem ClassFile Op Lib Jvm.Stand Jvm.Free Jvm.LawKit Jvm.RoadKit
/-- the String constants that the walk has loaded, each with its object (none: not kept) -/
abbrev Sg : Type := Option (List (String × Nat × String × Addr))
def VOk (Z : State) (vm : Vm) : Sg → Prop
  | none => True
  | some L => IB Z vm (L.map fun q => q.2.2.1) ∧ ∀ q ∈ L, Lit (Z.setVm vm) q.1 q.2.1 q.2.2.2
theorem VOk.warm {Z s : State} {vm0 vm1 : Vm} {σ : Sg} (V : VOk Z vm0 σ) (hW : (s.setVm vm0).WarmedH vm1) : VOk Z vm1 σ := by
  cases σ with
  | none => trivial
  | some L =>
    obtain ⟨⟨more, e, hm⟩, hl⟩ := V
    refine ⟨⟨more, ?_, hm⟩, fun q hq => ?_⟩
    · rw [hW.interned_eq]; exact e
    · have h1 : Lit (s.setVm vm0) q.1 q.2.1 q.2.2.2 := hl q hq
      exact Lit.stays h1 hW.wide
/-- the unsigned shifts, the comparing of longs, as the machine spells them -/
abbrev ushr (x y : Int32) : Int32 := (x.toUInt32 >>> (y &&& 31).toUInt32).toInt32
abbrev ushrL (x : Int64) (y : Int32) : Int64 := (x.toUInt64 >>> (y &&& 63).toInt64.toUInt64).toInt64
abbrev cmpL (x y : Int64) : Int32 := if x > y then 1 else if x = y then 0 else -1
/-- the data of one walk of one body -/
abbrev Cx : Type := Program × Launch × Env × Room × State × MethodId × Array Value × List Frame × Method × Code × State × Nat × (Option Value → Heap → Sg → Prop)
/-- from this pc, these locals, this stack and this heap the body comes to its end as promised -/
def Go : Cx → Sg → Heap → Nat → Nat → Nat → Array Slot → List Value → Prop
  | (p, l, e, R, s, m, args, below, meth, c, Z, n0, Q), σ, h, ce, sl, pc, ls, st =>
    ∀ (vm0 : Vm) (k0 : Nat) (T : State) (locs : List Loc), Stand p l e R (s.setVm vm0) m args below meth c T locs ce sl → s.Since vm0 k0 → k0 ≤ h.size → VOk Z vm0 σ → Old Z n0 h → T.heap = h → Fr n0 locs →
      ∃ (s₂ : State) (o : Outcome), Steps p.tables e below (T.setTop (mkF m pc ls st)) s₂ ∧ s₂.status = .running ∧ Ended s₂ below o ∧
        ∃ (v : Option Value) (L : List Loc) (σ' : Sg), o = .returned v ∧ (Fr n0 L ∧ VOk Z s₂.vm σ' ∧ Old Z n0 s₂.heap ∧ Q v s₂.heap σ') ∧ ReturnedEndW s o s₂ L R.cells R.slots
/-- what is known of a walk's data -/
def Amb : Cx → Launch → State → MethodName → ByteArray → Nat → Option FieldType → Room → Heap → Nat → (Option Value → Heap → Sg → Prop) → Prop
  | (p, l', e, R, s, m, args, below, meth, c, Z', n0', Q'), l, Z, y, code, maxL, ret, rm, h0, n0, Q =>
    l' = l ∧ R = rm ∧ Z' = Z ∧ n0' = n0 ∧ (∀ v h σ, Q v h σ → Q' v h σ) ∧ p.tables.exec = Jvm.exec ∧ Z.Warmed39 s.vm ∧ s.vm.findClass y.cls = some m.cls ∧ c.code = code ∧ c.maxLocals = maxL ∧ meth.sig.returnType = ret ∧ meth.locks = false ∧ meth.name = y.name ∧ s.heap = h0
/-- a body's contract -/
def Con (l : Launch) (Z : State) (y : MethodName) (code : ByteArray) (maxL : Nat) (ret : Option FieldType) (rm : Room) (ws : List Jvm.Cond) (as : Array Value) (σ : Sg) (h0 : Heap) (n0 : Nat) (Q : Option Value → Heap → Sg → Prop) : Prop :=
  MetFree l y (head1 (Jvm.Cond.code y code maxL ret :: ws) rm) (fun a U => a = as ∧ Z.Warmed39 U.vm ∧ U.heap = h0 ∧ VOk Z U.vm σ ∧ Old Z n0 U.heap) (fun _ _ _ _ _ => True)
    (fun _ U o U' => ∃ v L σ', o = .returned v ∧ (Fr n0 L ∧ VOk Z U'.vm σ' ∧ Old Z n0 U'.heap ∧ Q v U'.heap σ') ∧ ReturnedEndW U o U' L rm.cells rm.slots)
section Rules
variable {κ : Cx} {l : Launch} {Z : State} {y : MethodName} {code : ByteArray} {maxL : Nat} {ret : Option FieldType} {rm : Room} {ws : List Jvm.Cond} {as a0 : Array Value} {σ : Sg} {h h0 h' : Heap} {n0 : Nat} {Q Q' : Option Value → Heap → Sg → Prop} {ce sl ce' sl' pc pc' pc2 : Nat} {ls ls' : Array Slot} {st st' rest : List Value}
theorem Con.of_go (hpl : plainFor y = true) (hef : ∀ m, entryFrame m as maxL = mkF m 0 ls []) (H : ∀ κ : Cx, Amb κ l Z y code maxL ret rm h0 n0 Q → Go κ σ h0 0 0 0 ls []) : Con l Z y code maxL ret rm ws as σ h0 n0 Q := by
  refine MetFree.of_bodySF hpl hisR ?_
  intro p e s m args below meth c s₁ Bd hml0 hP hK
  obtain ⟨rfl, hZ, hh, hV, hO⟩ := hP
  have X0 : Stand p l e rm s m args below meth c s₁ [] 0 0 := Stand.of_body Bd
  have e0 : s₁.heap = h0 := by rw [← hh, Bd.state]; rfl
  obtain ⟨s₂, o, hst, hr, he, hq⟩ := H (p, l, e, rm, s, m, args, below, meth, c, Z, n0, Q) ⟨rfl, rfl, rfl, rfl, fun _ _ _ q => q, Bd.exec, hZ, findClass_of_methodNamed Bd.named, Bd.bytes, hml0, Bd.returns, BodyLoose.notSynchronized Bd, (name_of_methodNamed Bd.named Bd.method).1, hh⟩ s.vm h0.size s₁ [] X0 ((State.WarmedH.refl s).since _) (Nat.le_refl _) hV (hh ▸ hO) e0 (Fr.nil _)
  exact ⟨s₂, o, castTop (hef m) hst, hr, he, hq⟩
theorem Con.mono (M : Con l Z y code maxL ret rm ws as σ h0 n0 Q) (hq : ∀ v h σ, Q v h σ → Q' v h σ) : Con l Z y code maxL ret rm ws as σ h0 n0 Q' := by
  intro p e a1 a2 a3 s m args below a4 a5 a6 a7
  obtain ⟨n, o, b1, b2, b3, v, L, σ', b4, b5, b6⟩ := M p e a1 a2 a3 s m args below a4 a5 a6 a7
  exact ⟨n, o, b1, b2, b3, v, L, σ', b4, ⟨b5.1, b5.2.1, b5.2.2.1, hq _ _ _ b5.2.2.2⟩, b6⟩
theorem Go.pure (D : Amb κ l Z y code maxL ret rm h0 n0 Q)
    (f : ∀ (p : Program) (e : Env) (below : List Frame) (T t : State) (m : MethodId) (c : Code), p.tables.exec = Jvm.exec → c.code = code → At T m c below → Steps p.tables e below (T.setTop (mkF m pc' ls' st')) t → Steps p.tables e below (T.setTop (mkF m pc ls st)) t)
    (G : Go κ σ h ce sl pc' ls' st') : Go κ σ h ce sl pc ls st := by
  obtain ⟨p, l', e, R, s, m, args, below, meth, c, Z', n0', Q'⟩ := κ
  obtain ⟨rfl, rfl, rfl, rfl, hQ, hx, hZ, hown, hby, hml, hret, hlk, hnm, hh⟩ := D
  intro vm0 k0 T locs X hS hk V O eT N
  obtain ⟨s₂, o, h1, h2⟩ := G vm0 k0 T locs X hS hk V O eT N
  exact ⟨s₂, o, f p e below T s₂ m c hx hby X.here h1, h2⟩
/-- a step that asks the walk's standing, the heap as it was -/
theorem Go.calm (D : Amb κ l Z y code maxL ret rm h0 n0 Q)
    (f : ∀ (p : Program) (e : Env) (s : State) (m : MethodId) (args : Array Value) (below : List Frame) (meth : Method) (c : Code) (T : State) (locs : List Loc), p.tables.exec = Jvm.exec → Z.Warmed39 s.vm → s.vm.findClass y.cls = some m.cls → c.code = code → c.maxLocals = maxL → s.heap = h0 → Stand p l e rm s m args below meth c T locs ce sl → T.heap = h → ∃ T', Stand p l e rm s m args below meth c T' locs ce sl ∧ T'.heap = h ∧ ∀ t, Steps p.tables e below (T'.setTop (mkF m pc' ls' st')) t → Steps p.tables e below (T.setTop (mkF m pc ls st)) t)
    (G : Go κ σ h ce sl pc' ls' st') : Go κ σ h ce sl pc ls st := by
  obtain ⟨p, l', e, R, s, m, args, below, meth, c, Z', n0', Q'⟩ := κ
  obtain ⟨rfl, rfl, rfl, rfl, hQ, hx, hZ, hown, hby, hml, hret, hlk, hnm, hh⟩ := D
  intro vm0 k0 T locs X hS hk V O eT N
  obtain ⟨T', X', eT', k⟩ := f p e (s.setVm vm0) m args below meth c T locs hx (State.Warmed39.trans (t := s) hZ hS.1) (by show vm0.findClass _ = _; rw [hS.1.alike.findClass]; exact hown) hby hml hh X eT
  obtain ⟨s₂, o, h1, h2⟩ := G vm0 k0 T' locs X' hS hk V O eT' N
  exact ⟨s₂, o, k _ h1, h2⟩
/-- what a step may write -/
def Gw (h h' : Heap) (n0 : Nat) : Prop := ∃ ws : List Addr, Keep h h' ws ∧ ∀ x ∈ ws, n0 ≤ x
theorem Gw.ext (E : Ext h h') : Gw h h' n0 := ⟨[], (Keep.refl _ _).ext E, fun _ q => nomatch q⟩
theorem Gw.one {a : Addr} (K : Keep h h' [a]) (q : n0 ≤ a) : Gw h h' n0 := ⟨[a], K, fun x z => by cases List.mem_singleton.mp z; exact q⟩
/-- a step that turns the heap -/
theorem Go.turn (D : Amb κ l Z y code maxL ret rm h0 n0 Q) {P : Heap → Prop}
    (f : ∀ (p : Program) (e : Env) (s : State) (m : MethodId) (args : Array Value) (below : List Frame) (meth : Method) (c : Code) (T : State) (locs : List Loc), p.tables.exec = Jvm.exec → Z.Warmed39 s.vm → s.vm.findClass y.cls = some m.cls → c.code = code → c.maxLocals = maxL → meth.name = y.name → Stand p l e rm s m args below meth c T locs ce sl → T.heap = h → Fr n0 locs → ∃ T' locs' h', Stand p l e rm s m args below meth c T' locs' ce' sl' ∧ T'.heap = h' ∧ Fr n0 locs' ∧ Gw h h' n0 ∧ P h' ∧ ∀ t, Steps p.tables e below (T'.setTop (mkF m pc' ls' st')) t → Steps p.tables e below (T.setTop (mkF m pc ls st)) t)
    (G : ∀ h', P h' → Go κ σ h' ce' sl' pc' ls' st') : Go κ σ h ce sl pc ls st := by
  obtain ⟨p, l', e, R, s, m, args, below, meth, c, Z', n0', Q'⟩ := κ
  obtain ⟨rfl, rfl, rfl, rfl, hQ, hx, hZ, hown, hby, hml, hret, hlk, hnm, hh⟩ := D
  intro vm0 k0 T locs X hS hk V O eT N
  obtain ⟨T', locs', h', X', eT', N', ⟨ws, K, hws⟩, hP, k⟩ := f p e (s.setVm vm0) m args below meth c T locs hx (State.Warmed39.trans (t := s) hZ hS.1) (by show vm0.findClass _ = _; rw [hS.1.alike.findClass]; exact hown) hby hml hnm X eT N
  obtain ⟨s₂, o, h1, h2⟩ := G h' hP vm0 k0 T' locs' X' hS (Nat.le_trans hk K.1) V (O.keep K hws) eT' N'
  exact ⟨s₂, o, k _ h1, h2⟩
theorem sd_mono {p : Program} {e : Env} {R : Room} {s : State} {m : MethodId} {args : Array Value} {below : List Frame} {meth : Method} {c : Code} {T : State} {locs : List Loc} (X : Stand p l e R s m args below meth c T locs ce sl) (h1 : ce ≤ ce') (h2 : sl ≤ sl') : Stand p l e R s m args below meth c T locs ce' sl' :=
  { X with same := X.same.mono h1 h2 }
theorem Go.up (h1 : ce ≤ ce') (h2 : sl ≤ sl') (G : Go κ σ h ce' sl' pc ls st) : Go κ σ h ce sl pc ls st := by
  obtain ⟨p, l', e, R, s, m, args, below, meth, c, Z', n0', Q'⟩ := κ
  intro vm0 k0 T locs X hS hk V O eT N
  exact G vm0 k0 T locs (sd_mono X h1 h2) hS hk V O eT N
/-- the walk's hidden knowledge: the heap at the start stands -/
theorem Go.old (D : Amb κ l Z y code maxL ret rm h0 n0 Q) (G : Old Z n0 h → Go κ σ h ce sl pc ls st) : Go κ σ h ce sl pc ls st := by
  obtain ⟨p, l', e, R, s, m, args, below, meth, c, Z', n0', Q'⟩ := κ
  obtain ⟨rfl, rfl, rfl, rfl, hQ, hx, hZ, hown, hby, hml, hret, hlk, hnm, hh⟩ := D
  intro vm0 k0 T locs X hS hk V O eT N
  exact G O vm0 k0 T locs X hS hk V O eT N
theorem Go.getS (D : Amb κ l Z y code maxL ret rm h0 n0 Q) {idx : Nat} {n d O : String} {v : Value} (w : (Jvm.Cond.fieldLink y.cls idx O n d).before a0 Z = true) (hd : decode code pc = .ok (.getstatic idx, 3)) (hp : pc + 3 = pc') (F : Sta Z Z.heap O n d v) (G : Go κ σ h ce sl pc' ls (v :: st)) : Go κ σ h ce sl pc ls st := by
  subst hp
  refine Go.old D fun O' => ?_
  exact Go.calm D (fun p e s m args below meth c T locs hx hZ hown hby hml hh X eT => Jvm.RoadKit.getS (host := "") X hx hZ hown w Via.refl eT (F.ext O'.2) (g := mkF m pc ls st) rfl (hb hby hd)) G
/-! returns -/
theorem Go.ret1 (D : Amb κ l Z y code maxL ret rm h0 n0 Q) {i : Instr} {t : FieldType} {w : Value} (hret' : ret = some t) (hn : narrow t w = w)
    (hi : (i = .ireturn ∧ (t = .int ∨ t = .boolean ∨ t = .byte ∨ t = .char ∨ t = .short) ∧ ∃ z, w = .int z) ∨ (i = .lreturn ∧ t = .long ∧ ∃ z, w = .long z) ∨ (i = .dreturn ∧ t = .double ∧ ∃ z, w = .double z) ∨ (i = .freturn ∧ t = .float ∧ ∃ z, w = .float z) ∨ (i = .areturn ∧ t.isReference = true ∧ w.isRef = true))
    (hd : decode code pc = .ok (i, 1)) (hc : ce ≤ rm.cells) (hs : sl ≤ rm.slots) (q : Q (some w) h σ) : Go κ σ h ce sl pc ls (w :: rest) := by
  obtain ⟨p, l', e, R, s, m, args, below, meth, c, Z', n0', Q'⟩ := κ
  obtain ⟨rfl, rfl, rfl, rfl, hQ, hx, hZ, hown, hby, hml, hret, hlk, hnm, hh⟩ := D
  intro vm0 k0 T locs X hS hk V O eT N
  have hr2 : meth.sig.returnType = some t := hret.trans hret'
  obtain ⟨fs, hr, hrun, hended, hW⟩ := X.leaveW hS (by rw [eT]; exact hk) (v := some w) (fun h => by rw [hr2] at h; cases h) hlk
  refine ⟨_, _, retOut X hx hr2 hn hi (hb hby hd) hr, hrun, hended, _, _, σ, rfl, ⟨N, V.warm X.warmed, ?_, hQ _ _ _ ?_⟩, hW.1, hW.2.1, hW.2.2.1, hW.2.2.2.mono hc hs⟩
  · show Old _ _ T.heap
    rw [eT]; exact O
  · show Q (some w) T.heap σ
    rw [eT]; exact q
theorem Go.iret (D : Amb κ l Z y code maxL ret rm h0 n0 Q) {x : Int32} (hret' : ret = some .int) (hd : decode code pc = .ok (.ireturn, 1)) (hc : ce ≤ rm.cells) (hs : sl ≤ rm.slots) (q : Q (some (.int x)) h σ) : Go κ σ h ce sl pc ls (.int x :: rest) :=
  Go.ret1 D hret' rfl (Or.inl ⟨rfl, Or.inl rfl, _, rfl⟩) hd hc hs q
theorem Go.zret (D : Amb κ l Z y code maxL ret rm h0 n0 Q) {x : Int32} (hret' : ret = some .boolean) (hx : narrow .boolean (.int x) = .int x) (hd : decode code pc = .ok (.ireturn, 1)) (hc : ce ≤ rm.cells) (hs : sl ≤ rm.slots) (q : Q (some (.int x)) h σ) : Go κ σ h ce sl pc ls (.int x :: rest) :=
  Go.ret1 D hret' hx (Or.inl ⟨rfl, Or.inr (Or.inl rfl), _, rfl⟩) hd hc hs q
theorem Go.cret (D : Amb κ l Z y code maxL ret rm h0 n0 Q) {x : Int32} (hret' : ret = some .char) (hx : narrow .char (.int x) = .int x) (hd : decode code pc = .ok (.ireturn, 1)) (hc : ce ≤ rm.cells) (hs : sl ≤ rm.slots) (q : Q (some (.int x)) h σ) : Go κ σ h ce sl pc ls (.int x :: rest) :=
  Go.ret1 D hret' hx (Or.inl ⟨rfl, Or.inr (Or.inr (Or.inr (Or.inl rfl))), _, rfl⟩) hd hc hs q
theorem Go.bret (D : Amb κ l Z y code maxL ret rm h0 n0 Q) {x : Int32} (hret' : ret = some .byte) (hx : narrow .byte (.int x) = .int x) (hd : decode code pc = .ok (.ireturn, 1)) (hc : ce ≤ rm.cells) (hs : sl ≤ rm.slots) (q : Q (some (.int x)) h σ) : Go κ σ h ce sl pc ls (.int x :: rest) :=
  Go.ret1 D hret' hx (Or.inl ⟨rfl, Or.inr (Or.inr (Or.inl rfl)), _, rfl⟩) hd hc hs q
theorem Go.aret (D : Amb κ l Z y code maxL ret rm h0 n0 Q) {t : FieldType} {a : Addr} (hret' : ret = some t) (ht : t.isReference = true) (hn : narrow t (.ref a) = .ref a) (hd : decode code pc = .ok (.areturn, 1)) (hc : ce ≤ rm.cells) (hs : sl ≤ rm.slots) (q : Q (some (.ref a)) h σ) : Go κ σ h ce sl pc ls (.ref a :: rest) :=
  Go.ret1 D hret' hn (Or.inr (Or.inr (Or.inr (Or.inr ⟨rfl, ht, rfl⟩)))) hd hc hs q
theorem Go.lret (D : Amb κ l Z y code maxL ret rm h0 n0 Q) {x : Int64} (hret' : ret = some .long) (hd : decode code pc = .ok (.lreturn, 1)) (hc : ce ≤ rm.cells) (hs : sl ≤ rm.slots) (q : Q (some (.long x)) h σ) : Go κ σ h ce sl pc ls (.long x :: rest) :=
  Go.ret1 D hret' rfl (Or.inr (Or.inl ⟨rfl, rfl, _, rfl⟩)) hd hc hs q
theorem Go.vret (D : Amb κ l Z y code maxL ret rm h0 n0 Q) (hret' : ret = none) (hd : decode code pc = .ok (.return_, 1)) (hc : ce ≤ rm.cells) (hs : sl ≤ rm.slots) (q : Q none h σ) : Go κ σ h ce sl pc ls [] := by
  obtain ⟨p, l', e, R, s, m, args, below, meth, c, Z', n0', Q'⟩ := κ
  obtain ⟨rfl, rfl, rfl, rfl, hQ, hx, hZ, hown, hby, hml, hret, hlk, hnm, hh⟩ := D
  intro vm0 k0 T locs X hS hk V O eT N
  have hr2 : meth.sig.returnType = none := hret.trans hret'
  obtain ⟨fs, hr, hrun, hended, hW⟩ := X.leaveW hS (by rw [eT]; exact hk) (v := none) (fun _ => rfl) hlk
  refine ⟨_, _, X.returnOut hx hr2 (hb hby hd) hr, hrun, hended, _, _, σ, rfl, ⟨N, V.warm X.warmed, ?_, hQ _ _ _ ?_⟩, hW.1, hW.2.1, hW.2.2.1, hW.2.2.2.mono hc hs⟩
  · show Old _ _ T.heap
    rw [eT]; exact O
  · show Q none T.heap σ
    rw [eT]; exact q
/-! branches -/
def cy : ClassFile.Cond → Int32 → Int32 → Prop
  | .eq, x, y => x = y
  | .ne, x, y => ¬ x = y
  | .lt, x, y => x < y
  | .ge, x, y => ¬ x < y
  | .gt, x, y => y < x
  | .le, x, y => ¬ y < x
def cn : ClassFile.Cond → Int32 → Int32 → Prop
  | .eq, x, y => ¬ x = y
  | .ne, x, y => x = y
  | .lt, x, y => ¬ x < y
  | .ge, x, y => x < y
  | .gt, x, y => ¬ y < x
  | .le, x, y => y < x
theorem icmp_dec (cd : ClassFile.Cond) (x y : Int32) : (if_icmp.holds cd x y = true ∧ cy cd x y) ∨ (if_icmp.holds cd x y = false ∧ cn cd x y) := by
  cases cd <;> simp only [if_icmp.holds, cy, cn, beq_iff_eq, bne_iff_ne, ne_eq, decide_eq_true_eq, decide_eq_false_iff_not, beq_eq_false_iff_ne, bne_eq_false_iff_eq, Int32.not_lt, gt_iff_lt, ge_iff_le, Int32.not_le]
  · by_cases q : x = y <;> simp [q]
  · by_cases q : x = y <;> simp [q]
  · rcases Int32.lt_or_le x y with q | q <;> simp [q]
  · rcases Int32.lt_or_le x y with q | q <;> simp [q]
  · rcases Int32.lt_or_le y x with q | q <;> simp [q]
  · rcases Int32.lt_or_le y x with q | q <;> simp [q]
theorem ifc_dec (cd : ClassFile.Cond) (x : Int32) : (ifCond.holds cd x = true ∧ cy cd x 0) ∨ (ifCond.holds cd x = false ∧ cn cd x 0) := by
  cases cd <;> simp only [ifCond.holds, cy, cn, beq_iff_eq, bne_iff_ne, ne_eq, decide_eq_true_eq, decide_eq_false_iff_not, beq_eq_false_iff_ne, bne_eq_false_iff_eq, Int32.not_lt, gt_iff_lt, ge_iff_le, Int32.not_le]
  · by_cases q : x = 0 <;> simp [q]
  · by_cases q : x = 0 <;> simp [q]
  · rcases Int32.lt_or_le x 0 with q | q <;> simp [q]
  · rcases Int32.lt_or_le x 0 with q | q <;> simp [q]
  · rcases Int32.lt_or_le 0 x with q | q <;> simp [q]
  · rcases Int32.lt_or_le 0 x with q | q <;> simp [q]
theorem Go.ifc (D : Amb κ l Z y code maxL ret rm h0 n0 Q) {cd : ClassFile.Cond} {o : Int} {x : Int32} (hd : decode code pc = .ok (.ifCond cd o, 3)) (ho : 0 ≤ (pc : Int) + o) (hp : ((pc : Int) + o).toNat = pc') (hp2 : pc + 3 = pc2)
    (Gt : cy cd x 0 → Go κ σ h ce sl pc' ls rest) (Gf : cn cd x 0 → Go κ σ h ce sl pc2 ls rest) : Go κ σ h ce sl pc ls (.int x :: rest) := by
  subst hp2
  rcases ifc_dec cd x with ⟨q1, q2⟩ | ⟨q1, q2⟩
  · exact Go.pure D (fun p e below T t m c hx hby hT k => XS.ifYes hT hx rfl rfl (hb hby hd) rfl q1 ho hp k) (Gt q2)
  · exact Go.pure D (fun p e below T t m c hx hby hT k => XS.ifNo hT hx rfl (hb hby hd) rfl q1 k) (Gf q2)
theorem Go.icmp (D : Amb κ l Z y code maxL ret rm h0 n0 Q) {cd : ClassFile.Cond} {o : Int} {x z : Int32} (hd : decode code pc = .ok (.if_icmp cd o, 3)) (ho : 0 ≤ (pc : Int) + o) (hp : ((pc : Int) + o).toNat = pc') (hp2 : pc + 3 = pc2)
    (Gt : cy cd x z → Go κ σ h ce sl pc' ls rest) (Gf : cn cd x z → Go κ σ h ce sl pc2 ls rest) : Go κ σ h ce sl pc ls (.int z :: .int x :: rest) := by
  subst hp2
  rcases icmp_dec cd x z with ⟨q1, q2⟩ | ⟨q1, q2⟩
  · exact Go.pure D (fun p e below T t m c hx hby hT k => XS.icmpYes hT hx rfl rfl (hb hby hd) rfl q1 ho hp k) (Gt q2)
  · exact Go.pure D (fun p e below T t m c hx hby hT k => XS.icmpNo hT hx rfl (hb hby hd) rfl q1 k) (Gf q2)
theorem Go.iloadN (D : Amb κ l Z y code maxL ret rm h0 n0 Q) {k : Fin 4} {v : Int32} (hd : decode code pc = .ok (.iload_n k, 1)) (hp : pc + 1 = pc') (hl : ls[k.val]? = some (.val (.int v))) (G : Go κ σ h ce sl pc' ls (.int v :: st)) : Go κ σ h ce sl pc ls (st) := by
  subst hp
  exact Go.pure D (fun p e below T t m c hx hby hT k' => XS.iloadN hT hx rfl (hb hby hd) hl k') G
theorem Go.iload (D : Amb κ l Z y code maxL ret rm h0 n0 Q) {k : Nat} {v : Int32} (hd : decode code pc = .ok (.iload k, 2)) (hp : pc + 2 = pc') (hl : ls[k]? = some (.val (.int v))) (G : Go κ σ h ce sl pc' ls (.int v :: st)) : Go κ σ h ce sl pc ls (st) := by
  subst hp
  exact Go.pure D (fun p e below T t m c hx hby hT k' => XS.iload hT hx rfl (hb hby hd) hl k') G
theorem Go.aloadN (D : Amb κ l Z y code maxL ret rm h0 n0 Q) {k : Fin 4} {v : Value} (hd : decode code pc = .ok (.aload_n k, 1)) (hp : pc + 1 = pc') (hl : ls[k.val]? = some (.val v)) (hv : v.isRef = true) (G : Go κ σ h ce sl pc' ls (v :: st)) : Go κ σ h ce sl pc ls (st) := by
  subst hp
  exact Go.pure D (fun p e below T t m c hx hby hT k' => XS.aloadN hT hx rfl (hb hby hd) hl hv k') G
theorem Go.aload (D : Amb κ l Z y code maxL ret rm h0 n0 Q) {k : Nat} {v : Value} (hd : decode code pc = .ok (.aload k, 2)) (hp : pc + 2 = pc') (hl : ls[k]? = some (.val v)) (hv : v.isRef = true) (G : Go κ σ h ce sl pc' ls (v :: st)) : Go κ σ h ce sl pc ls (st) := by
  subst hp
  exact Go.pure D (fun p e below T t m c hx hby hT k' => XS.aload hT hx rfl (hb hby hd) hl hv k') G
theorem Go.lloadN (D : Amb κ l Z y code maxL ret rm h0 n0 Q) {k : Fin 4} {v : Int64} (hd : decode code pc = .ok (.lload_n k, 1)) (hp : pc + 1 = pc') (hl : ls[k.val]? = some (.val (.long v))) (G : Go κ σ h ce sl pc' ls (.long v :: st)) : Go κ σ h ce sl pc ls (st) := by
  subst hp
  exact Go.pure D (fun p e below T t m c hx hby hT k' => XS.lloadN hT hx rfl (hb hby hd) hl k') G
theorem Go.lload (D : Amb κ l Z y code maxL ret rm h0 n0 Q) {k : Nat} {v : Int64} (hd : decode code pc = .ok (.lload k, 2)) (hp : pc + 2 = pc') (hl : ls[k]? = some (.val (.long v))) (G : Go κ σ h ce sl pc' ls (.long v :: st)) : Go κ σ h ce sl pc ls (st) := by
  subst hp
  exact Go.pure D (fun p e below T t m c hx hby hT k' => XS.lload hT hx rfl (hb hby hd) hl k') G
theorem Go.iconst (D : Amb κ l Z y code maxL ret rm h0 n0 Q) {i : Int} {v : Int32} (hd : decode code pc = .ok (.iconst i, 1)) (hp : pc + 1 = pc') (hv : Int32.ofInt i = v) (G : Go κ σ h ce sl pc' ls (.int v :: st)) : Go κ σ h ce sl pc ls (st) := by
  subst hp hv
  exact Go.pure D (fun p e below T t m c hx hby hT k' => XS.iconst hT hx rfl (hb hby hd) k') G
theorem Go.bipush (D : Amb κ l Z y code maxL ret rm h0 n0 Q) {i : Int} {v : Int32} (hd : decode code pc = .ok (.bipush i, 2)) (hp : pc + 2 = pc') (hv : (Int8.ofInt i).toInt32 = v) (G : Go κ σ h ce sl pc' ls (.int v :: st)) : Go κ σ h ce sl pc ls (st) := by
  subst hp hv
  exact Go.pure D (fun p e below T t m c hx hby hT k' => XS.bipush hT hx rfl (hb hby hd) k') G
theorem Go.sipush (D : Amb κ l Z y code maxL ret rm h0 n0 Q) {i : Int} {v : Int32} (hd : decode code pc = .ok (.sipush i, 3)) (hp : pc + 3 = pc') (hv : (Int16.ofInt i).toInt32 = v) (G : Go κ σ h ce sl pc' ls (.int v :: st)) : Go κ σ h ce sl pc ls (st) := by
  subst hp hv
  exact Go.pure D (fun p e below T t m c hx hby hT k' => XS.sipush hT hx rfl (hb hby hd) k') G
theorem Go.lconst (D : Amb κ l Z y code maxL ret rm h0 n0 Q) {k : Fin 2} {v : Int64} (hd : decode code pc = .ok (.lconst k, 1)) (hp : pc + 1 = pc') (hv : Int64.ofNat k = v) (G : Go κ σ h ce sl pc' ls (.long v :: st)) : Go κ σ h ce sl pc ls (st) := by
  subst hp hv
  exact Go.pure D (fun p e below T t m c hx hby hT k' => XS.lconst hT hx rfl (hb hby hd) k') G
theorem Go.aconstNull (D : Amb κ l Z y code maxL ret rm h0 n0 Q)  (hd : decode code pc = .ok (.aconst_null, 1)) (hp : pc + 1 = pc')  (G : Go κ σ h ce sl pc' ls (.null :: st)) : Go κ σ h ce sl pc ls (st) := by
  subst hp
  exact Go.pure D (fun p e below T t m c hx hby hT k' => XS.aconstNull hT hx rfl (hb hby hd) k') G
theorem Go.iadd (D : Amb κ l Z y code maxL ret rm h0 n0 Q) {x z : Int32} (hd : decode code pc = .ok (.iadd, 1)) (hp : pc + 1 = pc')  (G : Go κ σ h ce sl pc' ls (.int (x + z) :: rest)) : Go κ σ h ce sl pc ls (.int z :: .int x :: rest) := by
  subst hp
  exact Go.pure D (fun p e below T t m c hx hby hT k' => XS.iadd hT hx rfl (hb hby hd) rfl k') G
theorem Go.isub (D : Amb κ l Z y code maxL ret rm h0 n0 Q) {x z : Int32} (hd : decode code pc = .ok (.isub, 1)) (hp : pc + 1 = pc')  (G : Go κ σ h ce sl pc' ls (.int (x - z) :: rest)) : Go κ σ h ce sl pc ls (.int z :: .int x :: rest) := by
  subst hp
  exact Go.pure D (fun p e below T t m c hx hby hT k' => XS.isub hT hx rfl (hb hby hd) rfl k') G
theorem Go.iand (D : Amb κ l Z y code maxL ret rm h0 n0 Q) {x z : Int32} (hd : decode code pc = .ok (.iand, 1)) (hp : pc + 1 = pc')  (G : Go κ σ h ce sl pc' ls (.int (x &&& z) :: rest)) : Go κ σ h ce sl pc ls (.int z :: .int x :: rest) := by
  subst hp
  exact Go.pure D (fun p e below T t m c hx hby hT k' => XS.iand hT hx rfl (hb hby hd) rfl k') G
theorem Go.imul (D : Amb κ l Z y code maxL ret rm h0 n0 Q) {x z : Int32} (hd : decode code pc = .ok (.imul, 1)) (hp : pc + 1 = pc')  (G : Go κ σ h ce sl pc' ls (.int (x * z) :: rest)) : Go κ σ h ce sl pc ls (.int z :: .int x :: rest) := by
  subst hp
  exact Go.pure D (fun p e below T t m c hx hby hT k' => XS.imul hT hx rfl (hb hby hd) rfl k') G
theorem Go.ixor (D : Amb κ l Z y code maxL ret rm h0 n0 Q) {x z : Int32} (hd : decode code pc = .ok (.ixor, 1)) (hp : pc + 1 = pc')  (G : Go κ σ h ce sl pc' ls (.int (x ^^^ z) :: rest)) : Go κ σ h ce sl pc ls (.int z :: .int x :: rest) := by
  subst hp
  exact Go.pure D (fun p e below T t m c hx hby hT k' => XS.ixor hT hx rfl (hb hby hd) rfl k') G
theorem Go.ior (D : Amb κ l Z y code maxL ret rm h0 n0 Q) {x z : Int32} (hd : decode code pc = .ok (.ior, 1)) (hp : pc + 1 = pc')  (G : Go κ σ h ce sl pc' ls (.int (x ||| z) :: rest)) : Go κ σ h ce sl pc ls (.int z :: .int x :: rest) := by
  subst hp
  exact Go.pure D (fun p e below T t m c hx hby hT k' => XS.ior hT hx rfl (hb hby hd) rfl k') G
theorem Go.ishl (D : Amb κ l Z y code maxL ret rm h0 n0 Q) {x z : Int32} (hd : decode code pc = .ok (.ishl, 1)) (hp : pc + 1 = pc')  (G : Go κ σ h ce sl pc' ls (.int (x <<< (z &&& 31)) :: rest)) : Go κ σ h ce sl pc ls (.int z :: .int x :: rest) := by
  subst hp
  exact Go.pure D (fun p e below T t m c hx hby hT k' => XS.ishl hT hx rfl (hb hby hd) rfl k') G
theorem Go.ishr (D : Amb κ l Z y code maxL ret rm h0 n0 Q) {x z : Int32} (hd : decode code pc = .ok (.ishr, 1)) (hp : pc + 1 = pc')  (G : Go κ σ h ce sl pc' ls (.int (x >>> (z &&& 31)) :: rest)) : Go κ σ h ce sl pc ls (.int z :: .int x :: rest) := by
  subst hp
  exact Go.pure D (fun p e below T t m c hx hby hT k' => XS.ishr hT hx rfl (hb hby hd) rfl k') G
theorem Go.iushr (D : Amb κ l Z y code maxL ret rm h0 n0 Q) {x z : Int32} (hd : decode code pc = .ok (.iushr, 1)) (hp : pc + 1 = pc')  (G : Go κ σ h ce sl pc' ls (.int (ushr x z) :: rest)) : Go κ σ h ce sl pc ls (.int z :: .int x :: rest) := by
  subst hp
  exact Go.pure D (fun p e below T t m c hx hby hT k' => XS.iushr hT hx rfl (hb hby hd) rfl k') G
theorem Go.ladd (D : Amb κ l Z y code maxL ret rm h0 n0 Q) {x z : Int64} (hd : decode code pc = .ok (.ladd, 1)) (hp : pc + 1 = pc')  (G : Go κ σ h ce sl pc' ls (.long (x + z) :: rest)) : Go κ σ h ce sl pc ls (.long z :: .long x :: rest) := by
  subst hp
  exact Go.pure D (fun p e below T t m c hx hby hT k' => XS.ladd hT hx rfl (hb hby hd) rfl k') G
theorem Go.lsub (D : Amb κ l Z y code maxL ret rm h0 n0 Q) {x z : Int64} (hd : decode code pc = .ok (.lsub, 1)) (hp : pc + 1 = pc')  (G : Go κ σ h ce sl pc' ls (.long (x - z) :: rest)) : Go κ σ h ce sl pc ls (.long z :: .long x :: rest) := by
  subst hp
  exact Go.pure D (fun p e below T t m c hx hby hT k' => XS.lsub hT hx rfl (hb hby hd) rfl k') G
theorem Go.lmul (D : Amb κ l Z y code maxL ret rm h0 n0 Q) {x z : Int64} (hd : decode code pc = .ok (.lmul, 1)) (hp : pc + 1 = pc')  (G : Go κ σ h ce sl pc' ls (.long (x * z) :: rest)) : Go κ σ h ce sl pc ls (.long z :: .long x :: rest) := by
  subst hp
  exact Go.pure D (fun p e below T t m c hx hby hT k' => XS.lmul hT hx rfl (hb hby hd) rfl k') G
theorem Go.land (D : Amb κ l Z y code maxL ret rm h0 n0 Q) {x z : Int64} (hd : decode code pc = .ok (.land, 1)) (hp : pc + 1 = pc')  (G : Go κ σ h ce sl pc' ls (.long (x &&& z) :: rest)) : Go κ σ h ce sl pc ls (.long z :: .long x :: rest) := by
  subst hp
  exact Go.pure D (fun p e below T t m c hx hby hT k' => XS.land hT hx rfl (hb hby hd) rfl k') G
theorem Go.lor (D : Amb κ l Z y code maxL ret rm h0 n0 Q) {x z : Int64} (hd : decode code pc = .ok (.lor, 1)) (hp : pc + 1 = pc')  (G : Go κ σ h ce sl pc' ls (.long (x ||| z) :: rest)) : Go κ σ h ce sl pc ls (.long z :: .long x :: rest) := by
  subst hp
  exact Go.pure D (fun p e below T t m c hx hby hT k' => XS.lor hT hx rfl (hb hby hd) rfl k') G
theorem Go.lxor (D : Amb κ l Z y code maxL ret rm h0 n0 Q) {x z : Int64} (hd : decode code pc = .ok (.lxor, 1)) (hp : pc + 1 = pc')  (G : Go κ σ h ce sl pc' ls (.long (x ^^^ z) :: rest)) : Go κ σ h ce sl pc ls (.long z :: .long x :: rest) := by
  subst hp
  exact Go.pure D (fun p e below T t m c hx hby hT k' => XS.lxor hT hx rfl (hb hby hd) rfl k') G
theorem Go.lshl (D : Amb κ l Z y code maxL ret rm h0 n0 Q) {x : Int64} {z : Int32} (hd : decode code pc = .ok (.lshl, 1)) (hp : pc + 1 = pc')  (G : Go κ σ h ce sl pc' ls (.long (x <<< (z &&& 63).toInt64) :: rest)) : Go κ σ h ce sl pc ls (.int z :: .long x :: rest) := by
  subst hp
  exact Go.pure D (fun p e below T t m c hx hby hT k' => XS.lshl hT hx rfl (hb hby hd) rfl k') G
theorem Go.lshr (D : Amb κ l Z y code maxL ret rm h0 n0 Q) {x : Int64} {z : Int32} (hd : decode code pc = .ok (.lshr, 1)) (hp : pc + 1 = pc')  (G : Go κ σ h ce sl pc' ls (.long (x >>> (z &&& 63).toInt64) :: rest)) : Go κ σ h ce sl pc ls (.int z :: .long x :: rest) := by
  subst hp
  exact Go.pure D (fun p e below T t m c hx hby hT k' => XS.lshr hT hx rfl (hb hby hd) rfl k') G
theorem Go.lushr (D : Amb κ l Z y code maxL ret rm h0 n0 Q) {x : Int64} {z : Int32} (hd : decode code pc = .ok (.lushr, 1)) (hp : pc + 1 = pc')  (G : Go κ σ h ce sl pc' ls (.long (ushrL x z) :: rest)) : Go κ σ h ce sl pc ls (.int z :: .long x :: rest) := by
  subst hp
  exact Go.pure D (fun p e below T t m c hx hby hT k' => XS.lushr hT hx rfl (hb hby hd) rfl k') G
theorem Go.ineg (D : Amb κ l Z y code maxL ret rm h0 n0 Q) {x : Int32} (hd : decode code pc = .ok (.ineg, 1)) (hp : pc + 1 = pc')  (G : Go κ σ h ce sl pc' ls (.int (-x) :: rest)) : Go κ σ h ce sl pc ls (.int x :: rest) := by
  subst hp
  exact Go.pure D (fun p e below T t m c hx hby hT k' => XS.ineg hT hx rfl (hb hby hd) rfl k') G
theorem Go.lneg (D : Amb κ l Z y code maxL ret rm h0 n0 Q) {x : Int64} (hd : decode code pc = .ok (.lneg, 1)) (hp : pc + 1 = pc')  (G : Go κ σ h ce sl pc' ls (.long (-x) :: rest)) : Go κ σ h ce sl pc ls (.long x :: rest) := by
  subst hp
  exact Go.pure D (fun p e below T t m c hx hby hT k' => XS.lneg hT hx rfl (hb hby hd) rfl k') G
theorem Go.i2l (D : Amb κ l Z y code maxL ret rm h0 n0 Q) {x : Int32} (hd : decode code pc = .ok (.i2l, 1)) (hp : pc + 1 = pc')  (G : Go κ σ h ce sl pc' ls (.long (x.toInt64) :: rest)) : Go κ σ h ce sl pc ls (.int x :: rest) := by
  subst hp
  exact Go.pure D (fun p e below T t m c hx hby hT k' => XS.i2l hT hx rfl (hb hby hd) rfl k') G
theorem Go.l2i (D : Amb κ l Z y code maxL ret rm h0 n0 Q) {x : Int64} (hd : decode code pc = .ok (.l2i, 1)) (hp : pc + 1 = pc')  (G : Go κ σ h ce sl pc' ls (.int (x.toInt32) :: rest)) : Go κ σ h ce sl pc ls (.long x :: rest) := by
  subst hp
  exact Go.pure D (fun p e below T t m c hx hby hT k' => XS.l2i hT hx rfl (hb hby hd) rfl k') G
theorem Go.i2b (D : Amb κ l Z y code maxL ret rm h0 n0 Q) {x : Int32} (hd : decode code pc = .ok (.i2b, 1)) (hp : pc + 1 = pc')  (G : Go κ σ h ce sl pc' ls (.int (x.toInt8.toInt32) :: rest)) : Go κ σ h ce sl pc ls (.int x :: rest) := by
  subst hp
  exact Go.pure D (fun p e below T t m c hx hby hT k' => XS.i2b hT hx rfl (hb hby hd) rfl k') G
theorem Go.i2c (D : Amb κ l Z y code maxL ret rm h0 n0 Q) {x : Int32} (hd : decode code pc = .ok (.i2c, 1)) (hp : pc + 1 = pc')  (G : Go κ σ h ce sl pc' ls (.int (x.toUInt32.toUInt16.toUInt32.toInt32) :: rest)) : Go κ σ h ce sl pc ls (.int x :: rest) := by
  subst hp
  exact Go.pure D (fun p e below T t m c hx hby hT k' => XS.i2c hT hx rfl (hb hby hd) rfl k') G
theorem Go.lcmp (D : Amb κ l Z y code maxL ret rm h0 n0 Q) {x z : Int64} (hd : decode code pc = .ok (.lcmp, 1)) (hp : pc + 1 = pc')  (G : Go κ σ h ce sl pc' ls (.int (cmpL x z) :: rest)) : Go κ σ h ce sl pc ls (.long z :: .long x :: rest) := by
  subst hp
  exact Go.pure D (fun p e below T t m c hx hby hT k' => XS.lcmp hT hx rfl (hb hby hd) rfl k') G
theorem Go.dup (D : Amb κ l Z y code maxL ret rm h0 n0 Q) {x : Value} (hd : decode code pc = .ok (.dup, 1)) (hp : pc + 1 = pc') (hc : x.category = 1) (G : Go κ σ h ce sl pc' ls (x :: x :: rest)) : Go κ σ h ce sl pc ls (x :: rest) := by
  subst hp
  exact Go.pure D (fun p e below T t m c hx hby hT k' => XS.dup hT hx rfl (hb hby hd) rfl hc k') G
theorem Go.pop (D : Amb κ l Z y code maxL ret rm h0 n0 Q) {x : Value} (hd : decode code pc = .ok (.pop, 1)) (hp : pc + 1 = pc') (hc : x.category = 1) (G : Go κ σ h ce sl pc' ls (rest)) : Go κ σ h ce sl pc ls (x :: rest) := by
  subst hp
  exact Go.pure D (fun p e below T t m c hx hby hT k' => XS.pop hT hx rfl (hb hby hd) rfl hc k') G
theorem Go.dupX1 (D : Amb κ l Z y code maxL ret rm h0 n0 Q) {x z : Value} (hd : decode code pc = .ok (.dup_x1, 1)) (hp : pc + 1 = pc') (hc : x.category = 1) (hc' : z.category = 1) (G : Go κ σ h ce sl pc' ls (x :: z :: x :: rest)) : Go κ σ h ce sl pc ls (x :: z :: rest) := by
  subst hp
  exact Go.pure D (fun p e below T t m c hx hby hT k' => XS.dupX1 hT hx rfl (hb hby hd) rfl hc hc' k') G
theorem Go.dup2 (D : Amb κ l Z y code maxL ret rm h0 n0 Q) {x z : Value} (hd : decode code pc = .ok (.dup2, 1)) (hp : pc + 1 = pc') (hc : x.category = 1) (hc' : z.category = 1) (G : Go κ σ h ce sl pc' ls (x :: z :: x :: z :: rest)) : Go κ σ h ce sl pc ls (x :: z :: rest) := by
  subst hp
  exact Go.pure D (fun p e below T t m c hx hby hT k' => XT.dup2 hT hx rfl (hb hby hd) rfl hc hc' k') G
theorem Go.dup2L (D : Amb κ l Z y code maxL ret rm h0 n0 Q) {x : Int64} (hd : decode code pc = .ok (.dup2, 1)) (hp : pc + 1 = pc')  (G : Go κ σ h ce sl pc' ls (.long x :: .long x :: rest)) : Go κ σ h ce sl pc ls (.long x :: rest) := by
  subst hp
  exact Go.pure D (fun p e below T t m c hx hby hT k' => XT.dup2L hT hx rfl (hb hby hd) rfl k') G
theorem Go.istoreN (D : Amb κ l Z y code maxL ret rm h0 n0 Q) {k : Fin 4} {x : Int32} (hd : decode code pc = .ok (.istore_n k, 1)) (hp : pc + 1 = pc') (hl : storeLocals ls k.val (.int x) = some ls') (G : Go κ σ h ce sl pc' ls' rest) : Go κ σ h ce sl pc ls (.int x :: rest) := by
  subst hp
  exact Go.pure D (fun p e below T t m c hx hby hT k' => XS.istoreN hT hx rfl (hb hby hd) rfl hl k') G
theorem Go.istore (D : Amb κ l Z y code maxL ret rm h0 n0 Q) {k : Nat} {x : Int32} (hd : decode code pc = .ok (.istore k, 2)) (hp : pc + 2 = pc') (hl : storeLocals ls k (.int x) = some ls') (G : Go κ σ h ce sl pc' ls' rest) : Go κ σ h ce sl pc ls (.int x :: rest) := by
  subst hp
  exact Go.pure D (fun p e below T t m c hx hby hT k' => XS.istore hT hx rfl (hb hby hd) rfl hl k') G
theorem Go.astoreN (D : Amb κ l Z y code maxL ret rm h0 n0 Q) {k : Fin 4} {x : Value} (hd : decode code pc = .ok (.astore_n k, 1)) (hp : pc + 1 = pc') (hv : x.isRef = true) (hl : storeLocals ls k.val x = some ls') (G : Go κ σ h ce sl pc' ls' rest) : Go κ σ h ce sl pc ls (x :: rest) := by
  subst hp
  exact Go.pure D (fun p e below T t m c hx hby hT k' => XS.astoreN hT hx rfl (hb hby hd) rfl hv hl k') G
theorem Go.astore (D : Amb κ l Z y code maxL ret rm h0 n0 Q) {k : Nat} {x : Value} (hd : decode code pc = .ok (.astore k, 2)) (hp : pc + 2 = pc') (hv : x.isRef = true) (hl : storeLocals ls k x = some ls') (G : Go κ σ h ce sl pc' ls' rest) : Go κ σ h ce sl pc ls (x :: rest) := by
  subst hp
  exact Go.pure D (fun p e below T t m c hx hby hT k' => XS.astore hT hx rfl (hb hby hd) rfl hv hl k') G
theorem Go.lstoreN (D : Amb κ l Z y code maxL ret rm h0 n0 Q) {k : Fin 4} {x : Int64} (hd : decode code pc = .ok (.lstore_n k, 1)) (hp : pc + 1 = pc') (hl : storeLocals ls k.val (.long x) = some ls') (G : Go κ σ h ce sl pc' ls' rest) : Go κ σ h ce sl pc ls (.long x :: rest) := by
  subst hp
  exact Go.pure D (fun p e below T t m c hx hby hT k' => XS.lstoreN hT hx rfl (hb hby hd) rfl hl k') G
theorem Go.lstore (D : Amb κ l Z y code maxL ret rm h0 n0 Q) {k : Nat} {x : Int64} (hd : decode code pc = .ok (.lstore k, 2)) (hp : pc + 2 = pc') (hl : storeLocals ls k (.long x) = some ls') (G : Go κ σ h ce sl pc' ls' rest) : Go κ σ h ce sl pc ls (.long x :: rest) := by
  subst hp
  exact Go.pure D (fun p e below T t m c hx hby hT k' => XS.lstore hT hx rfl (hb hby hd) rfl hl k') G
theorem Go.iinc (D : Amb κ l Z y code maxL ret rm h0 n0 Q) {k : Nat} {cst : Int} {x d : Int32} (hd : decode code pc = .ok (.iinc k cst, 3)) (hp : pc + 3 = pc') (hl : ls[k]? = some (.val (.int x))) (hv : Int32.ofInt cst = d) (hl' : storeLocals ls k (.int (x + d)) = some ls') (G : Go κ σ h ce sl pc' ls' st) : Go κ σ h ce sl pc ls st := by
  subst hp hv
  exact Go.pure D (fun p e below T t m c hx hby hT k' => XS.iinc hT hx rfl (hb hby hd) hl hl' k') G
theorem Go.istoreU (D : Amb κ l Z y code maxL ret rm h0 n0 Q) {k : Nat} {x : Int32} {o : Slot} (hd : decode code pc = .ok (.istore k, 2)) (hp : pc + 2 = pc') (hold : ls[k]? = some o) (ho : o = .unset ∨ ∃ w, o = .val w ∧ w.category = 1) (hl : ls.setIfInBounds k (.val (.int x)) = ls') (G : Go κ σ h ce sl pc' ls' rest) : Go κ σ h ce sl pc ls (.int x :: rest) := by
  subst hp hl
  exact Go.pure D (fun p e below T t m c hx hby hT k' => XS.istoreS hT hx rfl (hb hby hd) rfl hold ho k') G
theorem Go.istoreNU (D : Amb κ l Z y code maxL ret rm h0 n0 Q) {k : Fin 4} {x : Int32} {o : Slot} (hd : decode code pc = .ok (.istore_n k, 1)) (hp : pc + 1 = pc') (hold : ls[k.val]? = some o) (ho : o = .unset ∨ ∃ w, o = .val w ∧ w.category = 1) (hl : ls.setIfInBounds k.val (.val (.int x)) = ls') (G : Go κ σ h ce sl pc' ls' rest) : Go κ σ h ce sl pc ls (.int x :: rest) := by
  subst hp hl
  exact Go.pure D (fun p e below T t m c hx hby hT k' => XS.istoreNS hT hx rfl (hb hby hd) rfl hold ho k') G
theorem Go.astoreU (D : Amb κ l Z y code maxL ret rm h0 n0 Q) {k : Nat} {x : Value} {o : Slot} (hd : decode code pc = .ok (.astore k, 2)) (hp : pc + 2 = pc') (hv : x.isRef = true) (hc : x.category = 1) (hold : ls[k]? = some o) (ho : o = .unset ∨ ∃ w, o = .val w ∧ w.category = 1) (hl : ls.setIfInBounds k (.val x) = ls') (G : Go κ σ h ce sl pc' ls' rest) : Go κ σ h ce sl pc ls (x :: rest) := by
  subst hp hl
  exact Go.pure D (fun p e below T t m c hx hby hT k' => XS.astoreS hT hx rfl (hb hby hd) rfl hv hc hold ho k') G
theorem Go.goto (D : Amb κ l Z y code maxL ret rm h0 n0 Q) {o : Int} (hd : decode code pc = .ok (.goto o, 3)) (ho : 0 ≤ (pc : Int) + o) (hp : ((pc : Int) + o).toNat = pc') (G : Go κ σ h ce sl pc' ls st) : Go κ σ h ce sl pc ls st :=
  Go.pure D (fun p e below T t m c hx hby hT k' => XS.goto hT hx rfl rfl (hb hby hd) ho hp k') G
theorem Go.ifnullY (D : Amb κ l Z y code maxL ret rm h0 n0 Q) {o : Int} (hd : decode code pc = .ok (.ifnull o, 3)) (ho : 0 ≤ (pc : Int) + o) (hp : ((pc : Int) + o).toNat = pc') (G : Go κ σ h ce sl pc' ls rest) : Go κ σ h ce sl pc ls (.null :: rest) :=
  Go.pure D (fun p e below T t m c hx hby hT k' => XS.ifnullYes hT hx rfl rfl (hb hby hd) rfl ho hp k') G
theorem Go.ifnullN (D : Amb κ l Z y code maxL ret rm h0 n0 Q) {o : Int} {b : Addr} (hd : decode code pc = .ok (.ifnull o, 3)) (hp : pc + 3 = pc') (G : Go κ σ h ce sl pc' ls rest) : Go κ σ h ce sl pc ls (.ref b :: rest) := by
  subst hp
  exact Go.pure D (fun p e below T t m c hx hby hT k' => XS.ifnullNo hT hx rfl (hb hby hd) rfl k') G
theorem Go.ifnonnullY (D : Amb κ l Z y code maxL ret rm h0 n0 Q) {o : Int} {b : Addr} (hd : decode code pc = .ok (.ifnonnull o, 3)) (ho : 0 ≤ (pc : Int) + o) (hp : ((pc : Int) + o).toNat = pc') (G : Go κ σ h ce sl pc' ls rest) : Go κ σ h ce sl pc ls (.ref b :: rest) :=
  Go.pure D (fun p e below T t m c hx hby hT k' => XS.ifnonnullYes hT hx rfl rfl (hb hby hd) rfl ho hp k') G
theorem Go.ifnonnullN (D : Amb κ l Z y code maxL ret rm h0 n0 Q) {o : Int} (hd : decode code pc = .ok (.ifnonnull o, 3)) (hp : pc + 3 = pc') (G : Go κ σ h ce sl pc' ls rest) : Go κ σ h ce sl pc ls (.null :: rest) := by
  subst hp
  exact Go.pure D (fun p e below T t m c hx hby hT k' => XS.ifnonnullNo hT hx rfl (hb hby hd) rfl k') G
theorem Go.irem (D : Amb κ l Z y code maxL ret rm h0 n0 Q) {x z : Int32} (hd : decode code pc = .ok (.irem, 1)) (hp : pc + 1 = pc') (hz : z ≠ 0) (G : Go κ σ h ce sl pc' ls (.int (x % z) :: rest)) : Go κ σ h ce sl pc ls (.int z :: .int x :: rest) := by
  subst hp
  exact Go.calm D (fun p e s m args below meth c T locs hx hZ hown hby hml hh X eT => ⟨T, X, eT, fun t k => iremM X hx rfl (hb hby hd) rfl hz k⟩) G
theorem Go.ldcInt (D : Amb κ l Z y code maxL ret rm h0 n0 Q) {idx : Nat} {v : Int32} (w : (Jvm.Cond.constant y.cls idx v).before a0 Z = true) (hd : decode code pc = .ok (.ldc idx, 2)) (hp : pc + 2 = pc') (G : Go κ σ h ce sl pc' ls (.int v :: st)) : Go κ σ h ce sl pc ls st := by
  subst hp
  exact Go.calm D (fun p e s m args below meth c T locs hx hZ hown hby hml hh X eT => ⟨T, X, eT, X.ldcInt hx hown (mvT hZ w) (g := mkF m pc ls st) rfl (hb hby hd)⟩) G
theorem Go.ldc2Long (D : Amb κ l Z y code maxL ret rm h0 n0 Q) {idx : Nat} {v : Int64} (w : (Jvm.Cond.constantLong y.cls idx v).before a0 Z = true) (hd : decode code pc = .ok (.ldc2_w idx, 3)) (hp : pc + 3 = pc') (G : Go κ σ h ce sl pc' ls (.long v :: st)) : Go κ σ h ce sl pc ls st := by
  subst hp
  exact Go.calm D (fun p e s m args below meth c T locs hx hZ hown hby hml hh X eT => ⟨T, X, eT, X.ldc2Long hx hown (mvT hZ w) (g := mkF m pc ls st) rfl (hb hby hd)⟩) G
/-! fields -/
theorem Go.getF (D : Amb κ l Z y code maxL ret rm h0 n0 Q) {idx : Nat} {n d : String} {a : Addr} {v : Value} {O : String} (w : (Jvm.Cond.fieldLink y.cls idx O n d).before a0 Z = true) (hd : decode code pc = .ok (.getfield idx, 3)) (hp : pc + 3 = pc') (F : Fld Z h a O n d v) (G : Go κ σ h ce sl pc' ls (v :: rest)) : Go κ σ h ce sl pc ls (.ref a :: rest) := by
  subst hp
  exact Go.calm D (fun p e s m args below meth c T locs hx hZ hown hby hml hh X eT => Jvm.RoadKit.getF X hx hZ hown (host := "") (Or.inl w) Via.refl eT F (g := mkF m pc ls (.ref a :: rest)) rfl rfl (hb hby hd)) G
theorem Go.getFN (D : Amb κ l Z y code maxL ret rm h0 n0 Q) {idx : Nat} {n d host : String} {a : Addr} {v : Value} {O : String} (w : (Jvm.Cond.fieldLinkNest y.cls idx O n d host).before a0 Z = true) (hd : decode code pc = .ok (.getfield idx, 3)) (hp : pc + 3 = pc') (F : Fld Z h a O n d v) (G : Go κ σ h ce sl pc' ls (v :: rest)) : Go κ σ h ce sl pc ls (.ref a :: rest) := by
  subst hp
  exact Go.calm D (fun p e s m args below meth c T locs hx hZ hown hby hml hh X eT => Jvm.RoadKit.getF X hx hZ hown (host := host) (Or.inr w) Via.refl eT F (g := mkF m pc ls (.ref a :: rest)) rfl rfl (hb hby hd)) G
theorem Go.putF (D : Amb κ l Z y code maxL ret rm h0 n0 Q) {idx kk : Nat} {n d C O : String} {ty : FieldType} {a : Addr} {v old : Value} (w : (Jvm.Cond.fieldLink y.cls idx O n d).before a0 Z = true) (hd : decode code pc = .ok (.putfield idx, 3)) (hp : pc + 3 = pc') (F : Fld Z h a O n d old) (E : Exa Z h a C)
    (L : (Jvm.Cond.lays C O n d).before a0 Z = true ∨ ((Jvm.Cond.laysFinal C O n d).before a0 Z = true ∧ y.cls = O ∧ y.name = "<init>")) (wi : (Jvm.Cond.instantiable C kk).before a0 Z = true) (hty : parseFieldDescriptor d = some ty) (hn : narrow ty v = v) (hf : fits ty v = true) (ge : n0 ≤ a)
    (G : ∀ h', Wr h h' a (Jvm.RoadKit.slotOf Z O n d) v → Go κ σ h' ce sl pc' ls rest) : Go κ σ h ce sl pc ls (v :: .ref a :: rest) := by
  subst hp
  refine Go.turn D (fun p e s m args below meth c T locs hx hZ hown hby hml hnm X eT N => ?_) G
  obtain ⟨T', h1, X', e', W, k⟩ := Jvm.RoadKit.putF X hx hZ hown (host := "") (Or.inl w) Via.refl eT F E (L.imp id fun q => ⟨q.1, q.2.1, hnm.trans q.2.2⟩) wi hty hn hf (g := mkF m pc ls (v :: .ref a :: rest)) rfl rfl (hb hby hd)
  exact ⟨T', _, h1, X', e', Fr.snoc X' N ge, Gw.one (Keep.of_wr W) ge, W, k⟩
/-! new -/
theorem Go.newO (D : Amb κ l Z y code maxL ret rm h0 n0 Q) {idx n : Nat} {C : String} (w : (Jvm.Cond.classLink y.cls idx C).before a0 Z = true) (wi : (Jvm.Cond.instantiable C n).before a0 Z = true) (wz : (Jvm.Cond.initialized C).before a0 Z = true) (hd : decode code pc = .ok (.new idx, 3)) (hp : pc + 3 = pc') (hce : ce + 1 = ce') (hsl : sl + n = sl') (hc : ce' ≤ rm.cells) (hs : sl' ≤ rm.slots)
    (G : ∀ h' a, a = h.size → Ext h h' → Exa Z h' a C → (∀ {O nm d : String} {ty : FieldType}, Laid Z a0 C O nm d → parseFieldDescriptor d = some ty → Fld Z h' a O nm d (defaultValue ty)) → Go κ σ h' ce' sl' pc' ls (.ref a :: st)) : Go κ σ h ce sl pc ls st := by
  subst hp hce hsl
  refine Go.turn D (P := fun h' => Ext h h' ∧ Exa Z h' h.size C ∧ (∀ {O nm d : String} {ty : FieldType}, Laid Z a0 C O nm d → parseFieldDescriptor d = some ty → Fld Z h' h.size O nm d (defaultValue ty))) (fun p e s m args below meth c T locs hx hZ hown hby hml hnm X eT N => ?_) (fun h' q => G h' _ rfl q.1 q.2.1 q.2.2)
  obtain ⟨T', h1, X', e', E, A, F, -, k⟩ := Jvm.RoadKit.newO X hx hZ hown w wi wz eT (g := mkF m pc ls st) rfl (hb hby hd) hc hs
  exact ⟨T', _, h1, X', e', N, Gw.ext E, ⟨E, A, F⟩, k⟩
theorem Go.newP (D : Amb κ l Z y code maxL ret rm h0 n0 Q) {aty : ArrayType} {n : Int32} {cap : Nat} (w : (Jvm.Cond.arrayClass (newarray.typeOf aty)).before a0 Z = true) (hd : decode code pc = .ok (.newarray aty, 2)) (hp : pc + 2 = pc') (hn : ¬ n < 0) (hcap : n.toNatClampNeg ≤ cap) (hb' : cap * 8 ≤ 536870912) (hce : ce + 1 = ce') (hsl : sl + cap = sl') (hc : ce' ≤ rm.cells) (hs : sl' ≤ rm.slots)
    (G : ∀ h' a k, a = h.size → Ext h h' → Arv Z h' a k (newarray.typeOf aty) n [] (defaultValue (newarray.typeOf aty)) → Go κ σ h' ce' sl' pc' ls (.ref a :: rest)) : Go κ σ h ce sl pc ls (.int n :: rest) := by
  subst hp hce hsl
  refine Go.turn D (P := fun h' => ∃ k, Ext h h' ∧ Arv Z h' h.size k (newarray.typeOf aty) n [] (defaultValue (newarray.typeOf aty))) (fun p e s m args below meth c T locs hx hZ hown hby hml hnm X eT N => ?_) (fun h' q => by obtain ⟨k, q1, q2⟩ := q; exact G h' _ k rfl q1 q2)
  obtain ⟨T', h1, k, X', e', E, A, st'⟩ := Jvm.RoadKit.newP X hx hZ w eT (g := mkF m pc ls (.int n :: rest)) rfl (hb hby hd) rfl hn hcap hb' hc hs
  exact ⟨T', _, h1, X', e', N, Gw.ext E, ⟨k, E, Arv.new A hn⟩, st'⟩
theorem Go.floadN (D : Amb κ l Z y code maxL ret rm h0 n0 Q) {k : Fin 4} {v : UInt32} (hd : decode code pc = .ok (.fload_n k, 1)) (hp : pc + 1 = pc') (hl : ls[k.val]? = some (.val (.float v))) (G : Go κ σ h ce sl pc' ls (.float v :: st)) : Go κ σ h ce sl pc ls (st) := by
  subst hp
  exact Go.pure D (fun p e below T t m c hx hby hT k' => XS.floadN hT hx rfl (hb hby hd) hl k') G
theorem Go.fload (D : Amb κ l Z y code maxL ret rm h0 n0 Q) {k : Nat} {v : UInt32} (hd : decode code pc = .ok (.fload k, 2)) (hp : pc + 2 = pc') (hl : ls[k]? = some (.val (.float v))) (G : Go κ σ h ce sl pc' ls (.float v :: st)) : Go κ σ h ce sl pc ls (st) := by
  subst hp
  exact Go.pure D (fun p e below T t m c hx hby hT k' => XS.fload hT hx rfl (hb hby hd) hl k') G
theorem Go.fstore (D : Amb κ l Z y code maxL ret rm h0 n0 Q) {k : Nat} {x : UInt32} (hd : decode code pc = .ok (.fstore k, 2)) (hp : pc + 2 = pc') (hl : storeLocals ls k (.float x) = some ls') (G : Go κ σ h ce sl pc' ls' rest) : Go κ σ h ce sl pc ls (.float x :: rest) := by
  subst hp
  exact Go.pure D (fun p e below T t m c hx hby hT k' => XS.fstore hT hx rfl (hb hby hd) rfl hl k') G
theorem Go.fconst0 (D : Amb κ l Z y code maxL ret rm h0 n0 Q) {v : UInt32} (hd : decode code pc = .ok (.fconst 0, 1)) (hp : pc + 1 = pc') (hv : FP.fconst0 = v) (G : Go κ σ h ce sl pc' ls (.float v :: st)) : Go κ σ h ce sl pc ls (st) := by
  subst hp hv
  exact Go.pure D (fun p e below T t m c hx hby hT k' => XS.fconst0 hT hx rfl (hb hby hd) rfl k') G
theorem Go.i2f (D : Amb κ l Z y code maxL ret rm h0 n0 Q) {x : Int32} (hd : decode code pc = .ok (.i2f, 1)) (hp : pc + 1 = pc') (G : Go κ σ h ce sl pc' ls (.float (FP.i2f x) :: rest)) : Go κ σ h ce sl pc ls (.int x :: rest) := by
  subst hp
  exact Go.pure D (fun p e below T t m c hx hby hT k' => XS.i2fS hT hx rfl (hb hby hd) rfl rfl k') G
theorem Go.fcmp (D : Amb κ l Z y code maxL ret rm h0 n0 Q) {o : CmpOp} {x z : UInt32} (hd : decode code pc = .ok (.fcmp o, 1)) (hp : pc + 1 = pc') (G : Go κ σ h ce sl pc' ls (.int (cmpValue (FP.fcmp x z) o) :: rest)) : Go κ σ h ce sl pc ls (.float z :: .float x :: rest) := by
  subst hp
  exact Go.pure D (fun p e below T t m c hx hby hT k' => XS.fcmpS hT hx rfl (hb hby hd) rfl rfl k') G
theorem Go.ldcF (D : Amb κ l Z y code maxL ret rm h0 n0 Q) {idx : Nat} {v : UInt32} (w : (Jvm.Cond.constantFloat y.cls idx v).before a0 Z = true) (hd : decode code pc = .ok (.ldc idx, 2)) (hp : pc + 2 = pc') (G : Go κ σ h ce sl pc' ls (.float v :: st)) : Go κ σ h ce sl pc ls st := by
  subst hp
  exact Go.calm D (fun p e s m args below meth c T locs hx hZ hown hby hml hh X eT => ⟨T, X, eT, X.ldcFloatC hx hown (mvT hZ w) (g := mkF m pc ls st) rfl (hb hby hd)⟩) G
theorem Go.newPE (D : Amb κ l Z y code maxL ret rm h0 n0 Q) {aty : ArrayType} {n : Int32} {cap : Nat} {ad : String} (w : (Jvm.Cond.arrayClass (newarray.typeOf aty)).before a0 Z = true) (hd : decode code pc = .ok (.newarray aty, 2)) (hp : pc + 2 = pc') (hn : ¬ n < 0) (hcap : n.toNatClampNeg ≤ cap) (hb' : cap * 8 ≤ 536870912) (had : "[" ++ (newarray.typeOf aty).toString = ad) (hce : ce + 1 = ce') (hsl : sl + cap = sl') (hc : ce' ≤ rm.cells) (hs : sl' ≤ rm.slots)
    (G : ∀ h' a k, a = h.size → Ext h h' → Arv Z h' a k (newarray.typeOf aty) n [] (defaultValue (newarray.typeOf aty)) → Exa Z h' a ad → Go κ σ h' ce' sl' pc' ls (.ref a :: rest)) : Go κ σ h ce sl pc ls (.int n :: rest) := by
  subst hp hce hsl
  refine Go.turn D (P := fun h' => ∃ k, Ext h h' ∧ Arv Z h' h.size k (newarray.typeOf aty) n [] (defaultValue (newarray.typeOf aty)) ∧ Exa Z h' h.size ad) (fun p e s m args below meth c T locs hx hZ hown hby hml hnm X eT N => ?_) (fun h' q => by obtain ⟨k, q1, q2, q3⟩ := q; exact G h' _ k rfl q1 q2 q3)
  obtain ⟨T', h1, k, X', e', E, A, XA, st'⟩ := Jvm.RoadKit.newPE X hx hZ w eT (g := mkF m pc ls (.int n :: rest)) rfl (hb hby hd) rfl hn hcap hb' hc hs had
  exact ⟨T', _, h1, X', e', N, Gw.ext E, ⟨k, E, Arv.new A hn, XA⟩, st'⟩
theorem Go.cloneV (D : Amb κ l Z y code maxL ret rm h0 n0 Q) {idx : Nat} {ad : String} {a : Addr} {k : ClassId} {ty : FieldType} {n : Int32} {vs : List Value} {dv : Value} {cap W : Nat} (w1 : (Jvm.Cond.methodLink y.cls idx ⟨ad, "clone", "()Ljava/lang/Object;"⟩).before a0 Z = true) (w2 : (Jvm.Cond.sameMethod ad "java/lang/Object" "clone" "()Ljava/lang/Object;").before a0 Z = true) (w3 : (Jvm.Cond.native ⟨"java/lang/Object", "clone", "()Ljava/lang/Object;"⟩).before a0 Z = true)
    (w4 : (Jvm.Cond.instanceMethod ⟨"java/lang/Object", "clone", "()Ljava/lang/Object;"⟩).before a0 Z = true) (w5 : (Jvm.Cond.selects ad ⟨ad, "clone", "()Ljava/lang/Object;"⟩ ⟨"java/lang/Object", "clone", "()Ljava/lang/Object;"⟩).before a0 Z = true) (w6 : (Jvm.Cond.castable ad "java/lang/Cloneable").before a0 Z = true)
    (hd : decode code pc = .ok (.invokevirtual idx, 3)) (hp : pc + 3 = pc') (hls : ls.size = maxL) (A : Arv Z h a k ty n vs dv) (E : Exa Z h a ad) (hf : 1 ≤ rm.frames) (hW : (rest.map fun v => v.category).sum = W) (hl : W + 14 ≤ rm.locals) (hcap : n.toNatClampNeg ≤ cap) (hce : ce + 1 = ce') (hsl : sl + cap = sl') (hc : ce' ≤ rm.cells) (hs : sl' ≤ rm.slots)
    (G : ∀ h' b, b = h.size → Ext h h' → Arv Z h' b k ty n vs dv → Exa Z h' b ad → Go κ σ h' ce' sl' pc' ls (.ref b :: rest)) : Go κ σ h ce sl pc ls (.ref a :: rest) := by
  subst hp hce hsl
  refine Go.turn D (P := fun h' => Ext h h' ∧ Arv Z h' h.size k ty n vs dv ∧ Exa Z h' h.size ad) (fun p e s m args below meth c T locs hx hZ hown hby hml hnm X eT N => ?_) (fun h' q => G h' _ rfl q.1 q.2.1 q.2.2)
  obtain ⟨T', h1, X', e', E', A', XA, st'⟩ := Jvm.RoadKit.cloneH X hx hZ hown w1 w2 w3 w4 w5 w6 eT A.arh E (g := mkF m pc ls (.ref a :: rest)) rfl (hls.trans hml.symm) rfl (hb hby hd) hf (W := W) (by show 2 * 0 + _ ≤ _; rw [hW]; omega) hl hcap hc hs
  exact ⟨T', _, h1, X', e', N, Gw.ext E', ⟨E', A', XA⟩, st'⟩
theorem Go.newRE (D : Amb κ l Z y code maxL ret rm h0 n0 Q) {idx : Nat} {C : String} {n : Int32} {cap : Nat} {ad : String} (w1 : (Jvm.Cond.classLink y.cls idx C).before a0 Z = true) (w2 : (Jvm.Cond.arrayOver (.object C)).before a0 Z = true) (hd : decode code pc = .ok (.anewarray idx, 3)) (hp : pc + 3 = pc') (hn : ¬ n < 0) (hcap : n.toNatClampNeg ≤ cap) (hb' : cap * 8 ≤ 536870912) (had : "[" ++ (FieldType.object C).toString = ad) (hce : ce + 1 = ce') (hsl : sl + cap = sl') (hc : ce' ≤ rm.cells) (hs : sl' ≤ rm.slots)
    (G : ∀ h' a k, a = h.size → Ext h h' → Arv Z h' a k (.object C) n [] .null → Exa Z h' a ad → Ovr Z k C → Go κ σ h' ce' sl' pc' ls (.ref a :: rest)) : Go κ σ h ce sl pc ls (.int n :: rest) := by
  subst hp hce hsl
  refine Go.turn D (P := fun h' => ∃ k, Ext h h' ∧ Arv Z h' h.size k (.object C) n [] .null ∧ Exa Z h' h.size ad ∧ Ovr Z k C) (fun p e s m args below meth c T locs hx hZ hown hby hml hnm X eT N => ?_) (fun h' q => by obtain ⟨k, q1, q2, q3, q4⟩ := q; exact G h' _ k rfl q1 q2 q3 q4)
  obtain ⟨T', h1, k, X', e', E, A, XA, O, st'⟩ := Jvm.RoadKit.newRE X hx hZ hown w1 w2 eT (g := mkF m pc ls (.int n :: rest)) rfl (hb hby hd) rfl hn hcap hb' hc hs had
  exact ⟨T', _, h1, X', e', N, Gw.ext E, ⟨k, E, Arv.new A hn, XA, O⟩, st'⟩
theorem Go.lswHit (D : Amb κ l Z y code maxL ret rm h0 n0 Q) {k : Int32} {dflt a off : Int} {pairs : Array (Int × Int)} {len : Nat} (hd : decode code pc = .ok (.lookupswitch dflt pairs, len)) (hs : (pairs.toList.zip (pairs.toList.drop 1)).all (fun (a, next) => a.1 < next.1) = true) (hf : pairs.find? (·.1 == k.toInt) = some (a, off)) (ho : 0 ≤ (pc : Int) + off) (hp : ((pc : Int) + off).toNat = pc') (G : Go κ σ h ce sl pc' ls rest) : Go κ σ h ce sl pc ls (.int k :: rest) := by
  subst hp
  exact Go.calm D (fun p e s m args below meth c T locs hx hZ hown hby hml hh X eT => ⟨T, X, eT, fun t q => X.lookupswitchHit hx (g := mkF m pc ls (.int k :: rest)) rfl rfl (hb hby hd) hs hf ho t q⟩) G
theorem Go.lswMiss (D : Amb κ l Z y code maxL ret rm h0 n0 Q) {k : Int32} {dflt : Int} {pairs : Array (Int × Int)} {len : Nat} (hd : decode code pc = .ok (.lookupswitch dflt pairs, len)) (hs : (pairs.toList.zip (pairs.toList.drop 1)).all (fun (a, next) => a.1 < next.1) = true) (hf : pairs.find? (·.1 == k.toInt) = none) (ho : 0 ≤ (pc : Int) + dflt) (hp : ((pc : Int) + dflt).toNat = pc') (G : Go κ σ h ce sl pc' ls rest) : Go κ σ h ce sl pc ls (.int k :: rest) := by
  subst hp
  exact Go.calm D (fun p e s m args below meth c T locs hx hZ hown hby hml hh X eT => ⟨T, X, eT, fun t q => X.lookupswitchMiss hx (g := mkF m pc ls (.int k :: rest)) rfl rfl (hb hby hd) hs hf ho t q⟩) G
theorem Go.tswIn (D : Amb κ l Z y code maxL ret rm h0 n0 Q) {k : Int32} {dflt low high off : Int} {offs : Array Int} {len : Nat} (hd : decode code pc = .ok (.tableswitch dflt low high offs, len)) (hin : ¬ (k.toInt < low ∨ k.toInt > high)) (hf : offs[(k.toInt - low).toNat]? = some off) (ho : 0 ≤ (pc : Int) + off) (hp : ((pc : Int) + off).toNat = pc') (G : Go κ σ h ce sl pc' ls rest) : Go κ σ h ce sl pc ls (.int k :: rest) := by
  subst hp
  exact Go.calm D (fun p e s m args below meth c T locs hx hZ hown hby hml hh X eT => ⟨T, X, eT, fun t q => X.tableswitchIn hx (g := mkF m pc ls (.int k :: rest)) rfl rfl (hb hby hd) hin hf ho t q⟩) G
theorem Go.initO (D : Amb κ l Z y code maxL ret rm h0 n0 Q) {idx : Nat} {a : Addr} (w1 : (Jvm.Cond.methodLink y.cls idx Lib.objectInit).before a0 Z = true) (w2 : (Jvm.Cond.instanceMethod Lib.objectInit).before a0 Z = true) (w3 : (Jvm.Cond.code Lib.objectInit ⟨#[0xb1]⟩ 1 none).before a0 Z = true) (hd : decode code pc = .ok (.invokespecial idx, 3)) (hp : pc + 3 = pc') (hls : ls.size = maxL) (hf : 1 ≤ rm.frames) {W : Nat} (hW : (rest.map fun v => v.category).sum = W) (hl : W + 12 ≤ rm.locals)
    (G : Go κ σ h ce sl pc' ls rest) : Go κ σ h ce sl pc ls (.ref a :: rest) := by
  subst hp
  exact Go.calm D (fun p e s m args below meth c T locs hx hZ hown hby hml hh X eT => Jvm.RoadKit.initO X hx hZ hown w1 w2 w3 eT (g := mkF m pc ls (.ref a :: rest)) rfl (hls.trans hml.symm) rfl (hb hby hd) hf (W := W) (by show 2 * 0 + _ ≤ _; rw [hW]; omega) hl) G
/-! arrays -/
section Arrays
variable {a : Addr} {k : ClassId} {n j : Int32} {vs : List Value} {dv v : Value}
theorem Go.alen (D : Amb κ l Z y code maxL ret rm h0 n0 Q) {ty : FieldType} (hd : decode code pc = .ok (.arraylength, 1)) (hp : pc + 1 = pc') (A : Arv Z h a k ty n vs dv) (G : Go κ σ h ce sl pc' ls (.int n :: rest)) : Go κ σ h ce sl pc ls (.ref a :: rest) := by
  subst hp
  obtain ⟨c', A1, A2, A3, A4, A5, A6⟩ := A
  refine Go.calm D (fun p e s m args below meth c T locs hx hZ hown hby hml hh X eT => ⟨T, X, eT, fun t q => ?_⟩) G
  refine X.arraylength hx (by rw [eT]; exact A1.1) (State.isArrayOf_alike hZ.alike A1.2.1) (g := mkF m pc ls (.ref a :: rest)) rfl rfl (hb hby hd) t ?_
  rw [len_of A3 A4]; exact q
theorem Go.iaload (D : Amb κ l Z y code maxL ret rm h0 n0 Q) (hd : decode code pc = .ok (.iaload, 1)) (hp : pc + 1 = pc') (A : Arv Z h a k .int n vs dv) (h1 : ¬ j < 0) (h2 : j < n) (hv : vs.getD j.toNatClampNeg dv = v) (G : Go κ σ h ce sl pc' ls (v :: rest)) : Go κ σ h ce sl pc ls (.int j :: .ref a :: rest) := by
  subst hp
  obtain ⟨c', A1, A2, A3, A4, A5, A6, A7⟩ := A.inb h1 h2
  exact Go.calm D (fun p e s m args below meth c T locs hx hZ hown hby hml hh X eT => ⟨T, X, eT, fun t q => X.iaload hx (by rw [eT]; exact A1.1) (State.isArrayOf_alike hZ.alike A1.2.1) A1.2.2 A7 (A5.at A7 hv) (g := mkF m pc ls (.int j :: .ref a :: rest)) rfl rfl (hb hby hd) t q⟩) G
theorem Go.caload (D : Amb κ l Z y code maxL ret rm h0 n0 Q) (hd : decode code pc = .ok (.caload, 1)) (hp : pc + 1 = pc') (A : Arv Z h a k .char n vs dv) (h1 : ¬ j < 0) (h2 : j < n) (hv : vs.getD j.toNatClampNeg dv = v) (G : Go κ σ h ce sl pc' ls (v :: rest)) : Go κ σ h ce sl pc ls (.int j :: .ref a :: rest) := by
  subst hp
  obtain ⟨c', A1, A2, A3, A4, A5, A6, A7⟩ := A.inb h1 h2
  exact Go.calm D (fun p e s m args below meth c T locs hx hZ hown hby hml hh X eT => ⟨T, X, eT, fun t q => X.caload hx (by rw [eT]; exact A1.1) (State.isArrayOf_alike hZ.alike A1.2.1) A1.2.2 A7 (A5.at A7 hv) (g := mkF m pc ls (.int j :: .ref a :: rest)) rfl rfl (hb hby hd) t q⟩) G
theorem Go.baload (D : Amb κ l Z y code maxL ret rm h0 n0 Q) (hd : decode code pc = .ok (.baload, 1)) (hp : pc + 1 = pc') (A : Arv Z h a k .byte n vs dv) (h1 : ¬ j < 0) (h2 : j < n) (hv : vs.getD j.toNatClampNeg dv = v) (G : Go κ σ h ce sl pc' ls (v :: rest)) : Go κ σ h ce sl pc ls (.int j :: .ref a :: rest) := by
  subst hp
  obtain ⟨c', A1, A2, A3, A4, A5, A6, A7⟩ := A.inb h1 h2
  exact Go.calm D (fun p e s m args below meth c T locs hx hZ hown hby hml hh X eT => ⟨T, X, eT, fun t q => X.baloadBytes hx (by rw [eT]; exact A1.1) (State.isArrayOf_alike hZ.alike A1.2.1) A1.2.2 A7 (A5.at A7 hv) (g := mkF m pc ls (.int j :: .ref a :: rest)) rfl rfl (hb hby hd) t q⟩) G
theorem Go.aaload (D : Amb κ l Z y code maxL ret rm h0 n0 Q) {C : String} (hd : decode code pc = .ok (.aaload, 1)) (hp : pc + 1 = pc') (A : Arv Z h a k (.object C) n vs dv) (h1 : ¬ j < 0) (h2 : j < n) (hv : vs.getD j.toNatClampNeg dv = v) (G : Go κ σ h ce sl pc' ls (v :: rest)) : Go κ σ h ce sl pc ls (.int j :: .ref a :: rest) := by
  subst hp
  obtain ⟨c', A1, A2, A3, A4, A5, A6, A7⟩ := A.inb h1 h2
  exact Go.calm D (fun p e s m args below meth c T locs hx hZ hown hby hml hh X eT => ⟨T, X, eT, fun t q => X.aaload hx (by rw [eT]; exact A1.1) (State.isArrayOf_alike hZ.alike A1.2.1) rfl A1.2.2 A7 (A5.at A7 hv) (g := mkF m pc ls (.int j :: .ref a :: rest)) rfl rfl (hb hby hd) t q⟩) G
theorem Go.aastore (D : Amb κ l Z y code maxL ret rm h0 n0 Q) {C : String} {b : Addr} {i : Nat} (hd : decode code pc = .ok (.aastore, 1)) (hp : pc + 1 = pc') (A : Arv Z h a k (.object C) n vs dv) (O : Ovr Z k C) (I : Ins Z h b C true) (h1 : ¬ j < 0) (h2 : j < n) (hj : j.toNatClampNeg = i) (hi : i < vs.length) (ge : n0 ≤ a)
    (G : ∀ h', Keep h h' [a] → Arv Z h' a k (.object C) n (vs.set i (.ref b)) dv → Go κ σ h' ce sl pc' ls rest) : Go κ σ h ce sl pc ls (.ref b :: .int j :: .ref a :: rest) := by
  subst hp
  obtain ⟨c', A1, A2, A3, A4, A5, A6, A7⟩ := A.inb h1 h2
  refine Go.turn D (P := fun h' => Keep h h' [a] ∧ Arv Z h' a k (.object C) n (vs.set i (.ref b)) dv) (fun p e s m args below meth c T locs hx hZ hown hby hml hnm X eT N => ?_) (fun h' q => G h' q.1 q.2)
  obtain ⟨T', h1, X', e', W, q⟩ := Jvm.RoadKit.stR X hx hZ eT A1 A7 rfl (Sto.ofV A1 A2 O I) (g := mkF m pc ls (.ref b :: .int j :: .ref a :: rest)) rfl rfl (hb hby hd)
  exact ⟨T', _, h1, X', e', Fr.snoc X' N ge, Gw.one (Keep.of_wr W) ge, ⟨Keep.of_wr W, Arv.set A1 A2 A3 A4 A5 A6 rfl W i hj hi⟩, q⟩
theorem Go.iastore (D : Amb κ l Z y code maxL ret rm h0 n0 Q) {x : Int32} {i : Nat} (hd : decode code pc = .ok (.iastore, 1)) (hp : pc + 1 = pc') (A : Arv Z h a k .int n vs dv) (h1 : ¬ j < 0) (h2 : j < n) (hj : j.toNatClampNeg = i) (hi : i < vs.length) (ge : n0 ≤ a)
    (G : ∀ h', Keep h h' [a] → Arv Z h' a k .int n (vs.set i (.int x)) dv → Go κ σ h' ce sl pc' ls rest) : Go κ σ h ce sl pc ls (.int x :: .int j :: .ref a :: rest) := by
  subst hp
  obtain ⟨c', A1, A2, A3, A4, A5, A6, A7⟩ := A.inb h1 h2
  refine Go.turn D (P := fun h' => Keep h h' [a] ∧ Arv Z h' a k .int n (vs.set i (.int x)) dv) (fun p e s m args below meth c T locs hx hZ hown hby hml hnm X eT N => ?_) (fun h' q => G h' q.1 q.2)
  obtain ⟨T', h1, X', e', W, q⟩ := stI X hx hZ eT A1 A7 (g := mkF m pc ls (.int x :: .int j :: .ref a :: rest)) rfl rfl (hb hby hd)
  exact ⟨T', _, h1, X', e', Fr.snoc X' N ge, Gw.one (Keep.of_wr W) ge, ⟨Keep.of_wr W, Arv.set A1 A2 A3 A4 A5 A6 rfl W i hj hi⟩, q⟩
theorem Go.castore (D : Amb κ l Z y code maxL ret rm h0 n0 Q) {x x' : Int32} {i : Nat} (hd : decode code pc = .ok (.castore, 1)) (hp : pc + 1 = pc') (A : Arv Z h a k .char n vs dv) (h1 : ¬ j < 0) (h2 : j < n) (hj : j.toNatClampNeg = i) (hi : i < vs.length) (ge : n0 ≤ a) (hx' : nar .char x = x')
    (G : ∀ h', Keep h h' [a] → Arv Z h' a k .char n (vs.set i (.int x')) dv → Go κ σ h' ce sl pc' ls rest) : Go κ σ h ce sl pc ls (.int x :: .int j :: .ref a :: rest) := by
  subst hp hx'
  obtain ⟨c', A1, A2, A3, A4, A5, A6, A7⟩ := A.inb h1 h2
  refine Go.turn D (P := fun h' => Keep h h' [a] ∧ Arv Z h' a k .char n (vs.set i (.int (nar .char x))) dv) (fun p e s m args below meth c T locs hx hZ hown hby hml hnm X eT N => ?_) (fun h' q => G h' q.1 q.2)
  obtain ⟨T', h1, X', e', W, q⟩ := stC X hx hZ eT A1 A7 (g := mkF m pc ls (.int x :: .int j :: .ref a :: rest)) rfl rfl (hb hby hd)
  exact ⟨T', _, h1, X', e', Fr.snoc X' N ge, Gw.one (Keep.of_wr W) ge, ⟨Keep.of_wr W, Arv.set A1 A2 A3 A4 A5 A6 (fits_nar_char x) W i hj hi⟩, q⟩
theorem Go.bastore (D : Amb κ l Z y code maxL ret rm h0 n0 Q) {x x' : Int32} {i : Nat} (hd : decode code pc = .ok (.bastore, 1)) (hp : pc + 1 = pc') (A : Arv Z h a k .byte n vs dv) (h1 : ¬ j < 0) (h2 : j < n) (hj : j.toNatClampNeg = i) (hi : i < vs.length) (ge : n0 ≤ a) (hx' : nar .byte x = x')
    (G : ∀ h', Keep h h' [a] → Arv Z h' a k .byte n (vs.set i (.int x')) dv → Go κ σ h' ce sl pc' ls rest) : Go κ σ h ce sl pc ls (.int x :: .int j :: .ref a :: rest) := by
  subst hp hx'
  obtain ⟨c', A1, A2, A3, A4, A5, A6, A7⟩ := A.inb h1 h2
  refine Go.turn D (P := fun h' => Keep h h' [a] ∧ Arv Z h' a k .byte n (vs.set i (.int (nar .byte x))) dv) (fun p e s m args below meth c T locs hx hZ hown hby hml hnm X eT N => ?_) (fun h' q => G h' q.1 q.2)
  obtain ⟨T', h1, X', e', W, q⟩ := stB X hx hZ eT A1 A7 (g := mkF m pc ls (.int x :: .int j :: .ref a :: rest)) rfl rfl (hb hby hd)
  exact ⟨T', _, h1, X', e', Fr.snoc X' N ge, Gw.one (Keep.of_wr W) ge, ⟨Keep.of_wr W, Arv.set A1 A2 A3 A4 A5 A6 (fits_nar_byte x) W i hj hi⟩, q⟩
end Arrays
/-! classes of objects -/
theorem Go.castY (D : Amb κ l Z y code maxL ret rm h0 n0 Q) {idx : Nat} {K : String} {a : Addr} (w : (Jvm.Cond.classLink y.cls idx K).before a0 Z = true) (hd : decode code pc = .ok (.checkcast idx, 3)) (hp : pc + 3 = pc') (F : Ins Z h a K true) (G : Go κ σ h ce sl pc' ls (.ref a :: rest)) : Go κ σ h ce sl pc ls (.ref a :: rest) := by
  subst hp
  exact Go.calm D (fun p e s m args below meth c T locs hx hZ hown hby hml hh X eT => Jvm.RoadKit.castY X hx hZ hown w eT F (g := mkF m pc ls (.ref a :: rest)) rfl rfl (hb hby hd)) G
theorem Go.instY (D : Amb κ l Z y code maxL ret rm h0 n0 Q) {idx : Nat} {K : String} {a : Addr} (w : (Jvm.Cond.classLink y.cls idx K).before a0 Z = true) (hd : decode code pc = .ok (.instanceof idx, 3)) (hp : pc + 3 = pc') (F : Ins Z h a K true) (G : Go κ σ h ce sl pc' ls (.int 1 :: rest)) : Go κ σ h ce sl pc ls (.ref a :: rest) := by
  subst hp
  exact Go.calm D (fun p e s m args below meth c T locs hx hZ hown hby hml hh X eT => Jvm.RoadKit.instY X hx hZ hown w eT F (g := mkF m pc ls (.ref a :: rest)) rfl rfl (hb hby hd)) G
theorem Go.instN (D : Amb κ l Z y code maxL ret rm h0 n0 Q) {idx : Nat} {K C : String} {a : Addr} (w : (Jvm.Cond.classLink y.cls idx K).before a0 Z = true) (hd : decode code pc = .ok (.instanceof idx, 3)) (hp : pc + 3 = pc') (F : ∃ c t, Z.vm.findClass C = some c ∧ Z.vm.findClass K = some t ∧ Z.vm.assignable c t = false) (E : Exa Z h a C) (G : Go κ σ h ce sl pc' ls (.int 0 :: rest)) : Go κ σ h ce sl pc ls (.ref a :: rest) := by
  subst hp
  exact Go.calm D (fun p e s m args below meth c T locs hx hZ hown hby hml hh X eT => instNo X hx hZ hown w eT E F (g := mkF m pc ls (.ref a :: rest)) rfl rfl (hb hby hd)) G
theorem Go.instNull (D : Amb κ l Z y code maxL ret rm h0 n0 Q) {idx : Nat} (hd : decode code pc = .ok (.instanceof idx, 3)) (hp : pc + 3 = pc') (G : Go κ σ h ce sl pc' ls (.int 0 :: rest)) : Go κ σ h ce sl pc ls (.null :: rest) := by
  subst hp
  exact Go.calm D (fun p e s m args below meth c T locs hx hZ hown hby hml hh X eT => ⟨T, X, eT, X.instanceofNull hx (g := mkF m pc ls (.null :: rest)) rfl rfl (hb hby hd)⟩) G
theorem Go.acmpNe (D : Amb κ l Z y code maxL ret rm h0 n0 Q) {o : Int} {x z : Value} (h1 : x.isRef = true) (h2 : z.isRef = true) (hd : decode code pc = .ok (.if_acmp .ne o, 3)) (ho : 0 ≤ (pc : Int) + o) (hp : ((pc : Int) + o).toNat = pc') (hp2 : pc + 3 = pc2)
    (Gt : ¬ x = z → Go κ σ h ce sl pc' ls rest) (Gf : x = z → Go κ σ h ce sl pc2 ls rest) : Go κ σ h ce sl pc ls (z :: x :: rest) := by
  subst hp hp2
  by_cases q : x = z
  · exact Go.calm D (fun p e s m args below meth c T locs hx hZ hown hby hml hh X eT => ⟨T, X, eT, fun t k => acmp (g := mkF m pc ls (z :: x :: rest)) X hx rfl h1 h2 (same := true) rfl (hb hby hd) rfl (by simp [q]) ho (by simp [acV]) k⟩) (Gf q)
  · exact Go.calm D (fun p e s m args below meth c T locs hx hZ hown hby hml hh X eT => ⟨T, X, eT, fun t k => acmp (g := mkF m pc ls (z :: x :: rest)) X hx rfl h1 h2 (same := false) rfl (hb hby hd) rfl (by simp [q]) ho (by simp [acV]) k⟩) (Gt q)
theorem Go.acmpEq (D : Amb κ l Z y code maxL ret rm h0 n0 Q) {o : Int} {x z : Value} (h1 : x.isRef = true) (h2 : z.isRef = true) (hd : decode code pc = .ok (.if_acmp .eq o, 3)) (ho : 0 ≤ (pc : Int) + o) (hp : ((pc : Int) + o).toNat = pc') (hp2 : pc + 3 = pc2)
    (Gt : x = z → Go κ σ h ce sl pc' ls rest) (Gf : ¬ x = z → Go κ σ h ce sl pc2 ls rest) : Go κ σ h ce sl pc ls (z :: x :: rest) := by
  subst hp hp2
  by_cases q : x = z
  · exact Go.calm D (fun p e s m args below meth c T locs hx hZ hown hby hml hh X eT => ⟨T, X, eT, fun t k => acmp (g := mkF m pc ls (z :: x :: rest)) X hx rfl h1 h2 (same := true) rfl (hb hby hd) rfl (by simp [q]) ho (by simp [acV]) k⟩) (Gt q)
  · exact Go.calm D (fun p e s m args below meth c T locs hx hZ hown hby hml hh X eT => ⟨T, X, eT, fun t k => acmp (g := mkF m pc ls (z :: x :: rest)) X hx rfl h1 h2 (same := false) rfl (hb hby hd) rfl (by simp [q]) ho (by simp [acV]) k⟩) (Gf q)
/-! System.arraycopy -/
theorem Go.acopy (D : Amb κ l Z y code maxL ret rm h0 n0 Q) {idx sN dN nN : Nat} {a b : Addr} {k k' : ClassId} {ty : FieldType} {z z' sp dp nn : Int32} {vs vd : List Value} {dv dd : Value} (w1 : (Jvm.Cond.methodLink y.cls idx Jvm.Stand.acN).before a0 Z = true) (w2 : (Jvm.Cond.native Jvm.Stand.acN).before a0 Z = true) (w3 : (Jvm.Cond.static Jvm.Stand.acN).before a0 Z = true) (w4 : (Jvm.Cond.initialized "java/lang/System").before a0 Z = true)
    (hd : decode code pc = .ok (.invokestatic idx, 3)) (hp : pc + 3 = pc') (A : Arv Z h a k ty z vs dv) (B : Arv Z h b k' ty z' vd dd) (hty : refKind ty = false) (h1 : ¬ sp < 0) (h2 : ¬ dp < 0) (h3 : ¬ nn < 0) (e1 : sp.toNatClampNeg = sN) (e2 : dp.toNatClampNeg = dN) (e3 : nn.toNatClampNeg = nN) (h4 : sN + nN ≤ z.toNatClampNeg) (h5 : dN + nN ≤ z'.toNatClampNeg)
    (hl : dN + nN ≤ vd.length) (ge : n0 ≤ b) (hls : ls.size = maxL) (hf : 1 ≤ rm.frames) {W : Nat} (hW : (rest.map fun v => v.category).sum = W) (hlo : W + (nativeFrameWords "java/lang/System" "arraycopy" 5 + 11) ≤ rm.locals)
    (G : ∀ h', Keep h h' [b] → Arv Z h' b k' ty z' (vd.take dN ++ ((List.range nN).map fun i => vs.getD (sN + i) dv) ++ vd.drop (dN + nN)) dd → Go κ σ h' ce sl pc' ls rest) : Go κ σ h ce sl pc ls (.int nn :: .int dp :: .ref b :: .int sp :: .ref a :: rest) := by
  subst hp e1 e2 e3
  refine Go.turn D (P := fun h' => Keep h h' [b] ∧ Arv Z h' b k' ty z' (vd.take dp.toNatClampNeg ++ ((List.range nn.toNatClampNeg).map fun i => vs.getD (sp.toNatClampNeg + i) dv) ++ vd.drop (dp.toNatClampNeg + nn.toNatClampNeg)) dd) (fun p e s m args below meth c T locs hx hZ hown hby hml hnm X eT N => ?_) (fun h' q => G h' q.1 q.2)
  obtain ⟨T', h1, L, X', e', N', K, A', q⟩ := cpA X hx hZ hown w1 w2 w3 w4 eT A B (Or.inl ⟨rfl, hty⟩) h1 h2 h3 h4 h5 rfl hl N ge (g := mkF m pc ls (.int nn :: .int dp :: .ref b :: .int sp :: .ref a :: rest)) rfl (hls.trans hml.symm) rfl (hb hby hd) hf (W := W) (by show 2 * 0 + _ ≤ _; rw [hW]; omega) hlo
  exact ⟨T', L, h1, X', e', N', Gw.one K ge, ⟨K, A'⟩, q⟩
theorem nin1 {x y : Addr} (q : x ≠ y) : x ∉ [y] := fun z => q (List.mem_singleton.mp z)
/-! calls -/
section Calls
variable {z : MethodName} {bytes : ByteArray} {maxLz : Nat} {retz : Option FieldType} {rmz : Room} {argsL : List Value} {Qz : Option Value → Heap → Sg → Prop} {idx : Nat} {ps : List FieldType} {rt : Option FieldType}
theorem backOfW {p : Program} {e : Env} {R : Room} {s : State} {args : Array Value} {below : List Frame} {len W : Nat} (hM : Con l Z z bytes maxLz retz rmz [] as σ h n0 Qz)
    (hZ : Z.Warmed39 s.vm) (wc : (Jvm.Cond.code z bytes maxLz retz).before a0 Z = true) (wz : (Jvm.Cond.initialized z.cls).before a0 Z = true) (hf : rmz.frames + 1 ≤ R.frames) (hl : W + (maxLz + 11) + rmz.locals ≤ R.locals) :
    BackS l R p e below s args z len W (fun A a => a = as ∧ A.U.heap = h ∧ A.cells + rmz.cells ≤ R.cells ∧ A.slots + rmz.slots ≤ R.slots ∧ VOk Z A.U.vm σ ∧ Old Z n0 A.U.heap)
      (fun A _ v B => ∃ L σ', (Fr n0 L ∧ VOk Z B.U.vm σ' ∧ Old Z n0 B.U.heap ∧ Qz v B.U.heap σ') ∧ B.locs = A.locs ++ L ∧ B.cells = A.cells + rmz.cells ∧ B.slots = A.slots + rmz.slots) :=
  BackS.of_freeW (bytes := bytes) (maxL := maxLz) (ret := retz) (E := fun _ _ o t L k n => k = rmz.cells ∧ n = rmz.slots ∧ ∃ v σ', o = .returned v ∧ (Fr n0 L ∧ VOk Z t.vm σ' ∧ Old Z n0 t.heap ∧ Qz v t.heap σ')) hM hf hl
    (fun m meth c A a Y hp => have hU : Z.Warmed39 A.U.vm := wtrans hZ Y.warmed
      ⟨by show (Jvm.Cond.and _ .tt).before a A.U = true; rw [Cond.before_and, mv hU wc]; rfl, mv hU wc, mv hU wz, hp.2.2.1, hp.2.2.2.1⟩)
    (fun m meth c A a g mk Y hp => ⟨hp.1, wtrans hZ Y.warmed, hp.2.1, hp.2.2.2.2.1, hp.2.2.2.2.2⟩) (fun _ _ _ _ _ _ _ _ _ => trivial)
    (fun _ _ _ _ ⟨v, L, σ', h1, h2, h3⟩ => ⟨L, _, _, h3, rfl, rfl, v, σ', h1, h2⟩)
    (fun m meth c A a g mk v t L k n Y hp _ _ ⟨e1, e2, v', σ', e3, e4⟩ => by cases e3; subst e1 e2; exact ⟨L, σ', e4, rfl, rfl, rfl⟩)
theorem Go.callS (D : Amb κ l Z y code maxL ret rm h0 n0 Q) (M : Con l Z z bytes maxLz retz rmz [] argsL.toArray σ h n0 Qz) (w1 : (Jvm.Cond.methodLink y.cls idx z).before a0 Z = true) (w2 : (Jvm.Cond.static z).before a0 Z = true) (w3 : (Jvm.Cond.initialized z.cls).before a0 Z = true) (w4 : (Jvm.Cond.code z bytes maxLz retz).before a0 Z = true)
    (hz : z.cls ≠ "java/lang/invoke/MethodHandle" ∧ z.cls ≠ "java/lang/invoke/VarHandle") (hd : decode code pc = .ok (.invokestatic idx, 3)) (hp : pc + 3 = pc') (hpd : parseMethodDescriptor z.desc = some ⟨ps, rt⟩) (hlen : argsL.length = ps.length) (hst : st = argsL.reverse ++ rest) (hls : ls.size = maxL)
    (hf : rmz.frames + 1 ≤ rm.frames) {W : Nat} (hW : (rest.map fun v => v.category).sum = W) (hlo : W + (maxLz + 11) + rmz.locals ≤ rm.locals) (hce : ce + rmz.cells ≤ ce') (hsl : sl + rmz.slots ≤ sl') (hc : ce' ≤ rm.cells) (hs : sl' ≤ rm.slots)
    (G : ∀ v h' σ', Qz v h' σ' → Go κ σ' h' ce' sl' pc' ls (v.toList ++ rest)) : Go κ σ h ce sl pc ls st := by
  subst hp
  obtain ⟨p, l', e, R, s, m, args, below, meth, c, Z', n0', Q'⟩ := κ
  obtain ⟨rfl, rfl, rfl, rfl, hQ, hx, hZ, hown, hby, hml, hret, hlk, hnm, hh⟩ := D
  intro vm0 k0 T locs X hS hk V O eT N
  have hZ0 : Z'.Warmed39 (s.setVm vm0).vm := State.Warmed39.trans (t := s) hZ hS.1
  have hown0 : (s.setVm vm0).vm.findClass y.cls = some m.cls := by show vm0.findClass _ = _; rw [hS.1.alike.findClass]; exact hown
  obtain ⟨v, vm₁, ⟨T1, L1, k1, n1⟩, -, X1, hS1, hsz, ⟨Lc, σ', hQ1, l1, y1, z1⟩, st1⟩ := callSS X hx (y := z) hown0 (mvT hZ0 w1) (mvT hZ0 w2) (mvT hZ0 w3) (mvT hZ0 w4) hz (backOfW (W := W) M hZ0 w4 w3 hf hlo) (g := mkF m pc ls st) rfl (hls.trans hml.symm) (argsL := argsL) (rest := rest) (lenOf hpd hlen) hst (by show 2 * 0 + _ ≤ _; rw [hW]; omega) (hb hby hd) (fun vm₁ hw1 => ⟨rfl, eT, Nat.le_trans hce hc, Nat.le_trans hsl hs, V.warm hw1, by show Old _ _ T.heap; rw [eT]; exact O⟩)
  dsimp only [Pt.U, Pt.locs, Pt.cells, Pt.slots] at X1 l1 y1 z1 st1 hQ1 hS1 hsz
  subst l1 y1 z1
  obtain ⟨s₂, o, g1, g2⟩ := G v T1.heap σ' hQ1.2.2.2 T1.vm T1.heap.size T1 _ (sd_mono X1 hce hsl) (hS.trans hS1 (by rw [eT] at hsz; exact Nat.le_trans hk hsz)) (Nat.le_refl _) hQ1.2.1 hQ1.2.2.1 rfl (Fr.app N hQ1.1)
  exact ⟨s₂, o, st1.trans g1, g2⟩
theorem Go.callI (D : Amb κ l Z y code maxL ret rm h0 n0 Q) {a : Addr} (M : Con l Z z bytes maxLz none rmz [] (.ref a :: argsL).toArray σ h n0 Qz) (hz1 : z.name = "<init>") (w1 : (Jvm.Cond.methodLink y.cls idx z).before a0 Z = true) (w2 : (Jvm.Cond.instanceMethod z).before a0 Z = true) (w3 : (Jvm.Cond.initialized z.cls).before a0 Z = true) (w4 : (Jvm.Cond.code z bytes maxLz none).before a0 Z = true)
    (hz : z.cls ≠ "java/lang/invoke/MethodHandle" ∧ z.cls ≠ "java/lang/invoke/VarHandle") (hd : decode code pc = .ok (.invokespecial idx, 3)) (hp : pc + 3 = pc') (hpd : parseMethodDescriptor z.desc = some ⟨ps, rt⟩) (hlen : argsL.length = ps.length) (hst : st = argsL.reverse ++ .ref a :: rest) (hls : ls.size = maxL)
    (hf : rmz.frames + 1 ≤ rm.frames) {W : Nat} (hW : (rest.map fun v => v.category).sum = W) (hlo : W + (maxLz + 11) + rmz.locals ≤ rm.locals) (hce : ce + rmz.cells ≤ ce') (hsl : sl + rmz.slots ≤ sl') (hc : ce' ≤ rm.cells) (hs : sl' ≤ rm.slots)
    (G : ∀ v h' σ', Qz v h' σ' → Go κ σ' h' ce' sl' pc' ls (v.toList ++ rest)) : Go κ σ h ce sl pc ls st := by
  subst hp
  obtain ⟨p, l', e, R, s, m, args, below, meth, c, Z', n0', Q'⟩ := κ
  obtain ⟨rfl, rfl, rfl, rfl, hQ, hx, hZ, hown, hby, hml, hret, hlk, hnm, hh⟩ := D
  intro vm0 k0 T locs X hS hk V O eT N
  have hZ0 : Z'.Warmed39 (s.setVm vm0).vm := State.Warmed39.trans (t := s) hZ hS.1
  have hown0 : (s.setVm vm0).vm.findClass y.cls = some m.cls := by show vm0.findClass _ = _; rw [hS.1.alike.findClass]; exact hown
  obtain ⟨v, vm₁, ⟨T1, L1, k1, n1⟩, -, X1, hS1, hsz, ⟨Lc, σ', hQ1, l1, y1, z1⟩, st1⟩ := X.specialBackS hx (y := z) hz1 hown0 (mvT hZ0 w1) (mvT hZ0 w2) (mvT hZ0 w4) hz (backOfW (W := W) M hZ0 w4 w3 hf hlo) (g := mkF m pc ls st) rfl (hls.trans hml.symm) (Steps.refl _) (a := a) (argsL := argsL) (rest := rest) (lenOf hpd hlen) hst (by show 2 * 0 + _ ≤ _; rw [hW]; omega) (hb hby hd) (fun vm₁ hw1 => ⟨rfl, eT, Nat.le_trans hce hc, Nat.le_trans hsl hs, V.warm hw1, by show Old _ _ T.heap; rw [eT]; exact O⟩)
  dsimp only [Pt.U, Pt.locs, Pt.cells, Pt.slots] at X1 l1 y1 z1 st1 hQ1 hS1 hsz
  subst l1 y1 z1
  obtain ⟨s₂, o, g1, g2⟩ := G v T1.heap σ' hQ1.2.2.2 T1.vm T1.heap.size T1 _ (sd_mono X1 hce hsl) (hS.trans hS1 (by rw [eT] at hsz; exact Nat.le_trans hk hsz)) (Nat.le_refl _) hQ1.2.1 hQ1.2.2.1 rfl (Fr.app N hQ1.1)
  exact ⟨s₂, o, st1.trans g1, g2⟩
theorem Go.callV (D : Amb κ l Z y code maxL ret rm h0 n0 Q) {a : Addr} {C : String} {zr : MethodName} (M : Con l Z z bytes maxLz retz rmz [] (.ref a :: argsL).toArray σ h n0 Qz) (w1 : (Jvm.Cond.methodLink y.cls idx zr).before a0 Z = true) (w2 : (Jvm.Cond.declares zr).before a0 Z = true) (ws : (Jvm.Cond.selects C zr z).before a0 Z = true) (wi : (Jvm.Cond.instanceMethod z).before a0 Z = true) (w3 : (Jvm.Cond.initialized z.cls).before a0 Z = true) (w4 : (Jvm.Cond.code z bytes maxLz retz).before a0 Z = true)
    (nf : ∀ s : State, Z.Warmed39 s.vm → NotFace s zr) (hz : zr.cls ≠ "java/lang/invoke/MethodHandle" ∧ zr.cls ≠ "java/lang/invoke/VarHandle") (E : Exa Z h a C) (hd : decode code pc = .ok (.invokevirtual idx, 3)) (hp : pc + 3 = pc') (hpd : parseMethodDescriptor zr.desc = some ⟨ps, rt⟩) (hlen : argsL.length = ps.length) (hst : st = argsL.reverse ++ .ref a :: rest) (hls : ls.size = maxL)
    (hf : rmz.frames + 1 ≤ rm.frames) {W : Nat} (hW : (rest.map fun v => v.category).sum = W) (hlo : W + (maxLz + 11) + rmz.locals ≤ rm.locals) (hce : ce + rmz.cells ≤ ce') (hsl : sl + rmz.slots ≤ sl') (hc : ce' ≤ rm.cells) (hs : sl' ≤ rm.slots)
    (G : ∀ v h' σ', Qz v h' σ' → Go κ σ' h' ce' sl' pc' ls (v.toList ++ rest)) : Go κ σ h ce sl pc ls st := by
  subst hp
  obtain ⟨p, l', e, R, s, m, args, below, meth, c, Z', n0', Q'⟩ := κ
  obtain ⟨rfl, rfl, rfl, rfl, hQ, hx, hZ, hown, hby, hml, hret, hlk, hnm, hh⟩ := D
  intro vm0 k0 T locs X hS hk V O eT N
  have hZ0 : Z'.Warmed39 (s.setVm vm0).vm := State.Warmed39.trans (t := s) hZ hS.1
  have hown0 : (s.setVm vm0).vm.findClass y.cls = some m.cls := by show vm0.findClass _ = _; rw [hS.1.alike.findClass]; exact hown
  obtain ⟨cq, kq, q1, q2, q3⟩ := isOf hZ0 eT E
  obtain ⟨v, vm₁, ⟨T1, L1, k1, n1⟩, -, X1, hS1, hsz, ⟨Lc, σ', hQ1, l1, y1, z1⟩, st1⟩ := X.virtualBackS hx (y := zr) (z := z) hown0 (mvT hZ0 w1) (mvT hZ0 w2) (nf _ hZ0) (mvT hZ0 ws) (mvT hZ0 wi) hz (backOfW (W := W) M hZ0 w4 w3 hf hlo) q1 q3 (g := mkF m pc ls st) rfl (hls.trans hml.symm) (Steps.refl _) (argsL := argsL) (rest := rest) (lenOf hpd hlen) hst (by show 2 * 0 + _ ≤ _; rw [hW]; omega) (hb hby hd) (fun vm₁ hw1 => ⟨rfl, eT, Nat.le_trans hce hc, Nat.le_trans hsl hs, V.warm hw1, by show Old _ _ T.heap; rw [eT]; exact O⟩)
  dsimp only [Pt.U, Pt.locs, Pt.cells, Pt.slots] at X1 l1 y1 z1 st1 hQ1 hS1 hsz
  subst l1 y1 z1
  obtain ⟨s₂, o, g1, g2⟩ := G v T1.heap σ' hQ1.2.2.2 T1.vm T1.heap.size T1 _ (sd_mono X1 hce hsl) (hS.trans hS1 (by rw [eT] at hsz; exact Nat.le_trans hk hsz)) (Nat.le_refl _) hQ1.2.1 hQ1.2.2.1 rfl (Fr.app N hQ1.1)
  exact ⟨s₂, o, st1.trans g1, g2⟩
theorem nfS {C : String} {y : MethodName} (h : (Jvm.Cond.selects C y y).before a0 Z = true) : ∀ s : State, Z.Warmed39 s.vm → NotFace s y := fun s hZ => notFace_of_selects (args := #[]) (mvT hZ h)
theorem Go.fret (D : Amb κ l Z y code maxL ret rm h0 n0 Q) {x : UInt32} (hret' : ret = some .float) (hd : decode code pc = .ok (.freturn, 1)) (hc : ce ≤ rm.cells) (hs : sl ≤ rm.slots) (q : Q (some (.float x)) h σ) : Go κ σ h ce sl pc ls (.float x :: rest) :=
  Go.ret1 D hret' rfl (Or.inr (Or.inr (Or.inr (Or.inl ⟨rfl, rfl, _, rfl⟩)))) hd hc hs q
theorem Go.absF (D : Amb κ l Z y code maxL ret rm h0 n0 Q) {x : UInt32} (w1 : (Jvm.Cond.methodLink y.cls idx Jvm.Free.Fl.Abs.absN).before a0 Z = true) (w2 : (Jvm.Cond.static Jvm.Free.Fl.Abs.absN).before a0 Z = true) (w3 : (Jvm.Cond.initialized "java/lang/Math").before a0 Z = true) (w4 : (Jvm.Cond.code Jvm.Free.Fl.Abs.absN Jvm.Free.Fl.Abs.absCode 1 (some .float)).before a0 Z = true)
    (hN : Jvm.Free.Fl.NoNaN32 x) (hd : decode code pc = .ok (.invokestatic idx, 3)) (hp : pc + 3 = pc') (hls : ls.size = maxL) (hf : 1 ≤ rm.frames) {W : Nat} (hW : (rest.map fun v => v.category).sum = W) (hlo : W + 12 ≤ rm.locals) (hc : ce ≤ rm.cells) (hs : sl ≤ rm.slots)
    (G : Go κ σ h ce sl pc' ls (.float (x &&& 0x7fffffff) :: rest)) : Go κ σ h ce sl pc ls (.float x :: rest) := by
  subst hp
  obtain ⟨p, l', e, R, s, m, args, below, meth, c, Z', n0', Q'⟩ := κ
  obtain ⟨rfl, rfl, rfl, rfl, hQ, hx, hZ, hown, hby, hml, hret, hlk, hnm, hh⟩ := D
  intro vm0 k0 T locs X hS hk V O eT N
  have hZ0 : Z'.Warmed39 (s.setVm vm0).vm := State.Warmed39.trans (t := s) hZ hS.1
  have hown0 : (s.setVm vm0).vm.findClass y.cls = some m.cls := by show vm0.findClass _ = _; rw [hS.1.alike.findClass]; exact hown
  have hpd : parseMethodDescriptor Jvm.Free.Fl.Abs.absN.desc = some ⟨[.float], some .float⟩ := by decide +kernel
  obtain ⟨v, vm₁, ⟨T1, L1, k1, n1⟩, hw1, X1, hS1, hsz, ⟨hv, hB⟩, st1⟩ := callSS X hx (y := Jvm.Free.Fl.Abs.absN) hown0 (mvT hZ0 w1) (mvT hZ0 w2) (mvT hZ0 w3) (mvT hZ0 w4) ⟨by decide, by decide⟩ (BackS.of_back (Jvm.Free.Fl.Abs.pays (W := W) x (mvT hZ0 w4) hf hlo) (fun A a v B q => by rw [q.2]; exact Nat.le_refl _)) (g := mkF m pc ls (.float x :: rest)) rfl (hls.trans hml.symm) (argsL := [.float x]) (rest := rest) (lenOf hpd rfl) rfl (by show 2 * 0 + _ ≤ _; rw [hW]; omega) (hb hby hd) (fun vm₁ hw1 => ⟨hc, hs, rfl, hN⟩)
  subst hv
  cases hB
  dsimp only [Pt.U, Pt.locs, Pt.cells, Pt.slots] at X1 st1 hS1 hsz
  obtain ⟨s₂, o, g1, g2⟩ := G vm₁ T.heap.size (T.setVm vm₁) _ X1 (hS.trans hS1 (by rw [eT]; exact hk)) (by rw [eT]; exact Nat.le_refl _) (V.warm hw1) O eT N
  exact ⟨s₂, o, st1.trans g1, g2⟩
end Calls
/-! String constants -/
/-- a constant whose text nobody reads -/
theorem Go.ldcR (D : Amb κ l Z y code maxL ret rm h0 n0 Q) {idx n : Nat} {text : String} (w : (Jvm.Cond.stringLink y.cls idx text).before a0 Z = true) (wS : ∀ a ∈ Bundle.stringAtoms, a.before a0 Z = true) (hd : decode code pc = .ok (.ldc idx, 2)) (hp : pc + 2 = pc') (hn : 4 * text.toList.length ≤ n) (hbig : n ≤ 536870912) (hce : ce + 2 = ce') (hsl : sl + (n + 4) = sl') (hc : ce' ≤ rm.cells) (hs : sl' ≤ rm.slots)
    (G : ∀ h' a, Ext h h' → Go κ none h' ce' sl' pc' ls (.ref a :: st)) : Go κ none h ce sl pc ls st := by
  subst hp hce hsl
  obtain ⟨p, l', e, R, s, m, args, below, meth, c, Z', n0', Q'⟩ := κ
  obtain ⟨rfl, rfl, rfl, rfl, hQ, hx, hZ, hown, hby, hml, hret, hlk, hnm, hh⟩ := D
  intro vm0 k0 T locs X hS hk V O eT N
  have hZ0 : Z'.Warmed39 vm0 := State.Warmed39.trans (t := s) hZ hS.1
  have hown0 : vm0.findClass y.cls = some m.cls := by rw [hS.1.alike.findClass]; exact hown
  obtain ⟨a, T', h', k1, X', eT', E, hS', hk', -, -, k⟩ := ldcS X hx hZ0 hown0 w wS eT hS hk (g := mkF m pc ls st) rfl (hb hby hd) hn hbig hc hs
  obtain ⟨s₂, o, g1, g2⟩ := G h' a E T'.vm k1 T' locs X' hS' hk' trivial (O.ext E) eT' N
  exact ⟨s₂, o, k _ g1, g2⟩
/-- the same place of a walk, over a start that has the heap and the tables at hand -/
theorem reb {p : Program} {e : Env} {R : Room} {s : State} {m : MethodId} {args : Array Value} {below : List Frame} {meth : Method} {c : Code} {T : State} {locs : List Loc} (X : Stand p l e R s m args below meth c T locs ce sl) (hc : ce ≤ R.cells) (hs : sl ≤ R.slots) :
    Stand p l e { R with cells := R.cells - ce, slots := R.slots - sl } ({ (s.setVm T.vm) with heap := T.heap, slotsUsed := T.slotsUsed } : State) m args below meth c T [] 0 0 := by
  have Y := X.retabled X.warmed.wide
  refine { admits := X.admits, cas := X.cas, clock := X.clock, frames := X.frames, room := ?_, hears := Y.hears, method := Y.method, code := X.code, here := X.here, tail := X.tail, warmed := State.WarmedH.refl _, limits := X.limits, bytes := X.bytes, same := ?_ }
  · have r := Y.room
    have b := X.book
    have h1 := X.heapSize
    have h2 := X.used
    simp only [State.hasRoom, Bool.and_eq_true, decide_eq_true_eq] at r ⊢
    obtain ⟨⟨⟨⟨r1, r2⟩, r3⟩, r4⟩, r5⟩ := r
    refine ⟨⟨⟨⟨r1, r2⟩, ?_⟩, ?_⟩, b⟩
    · have r3' : s.heap.size + R.cells ≤ e.platform.maxCells := r3
      show T.heap.size + (R.cells - ce) ≤ e.platform.maxCells
      omega
    · have r4' : s.slotsUsed + R.slots ≤ e.platform.maxSlots := r4
      show T.slotsUsed + (R.slots - sl) ≤ e.platform.maxSlots
      omega
  · refine ⟨?_, Nat.le_refl _, by show T.heap.size ≤ T.heap.size + 0; omega, ?_, ?_, fun a c hc => ⟨c, hc, rfl, rfl, fun _ _ => rfl⟩⟩
    · have q := congrArg (fun u : State => u.setVm T.vm) X.same.1
      exact q
    · show T.slotsUsed = T.slotsUsed + ((T.heap.toList.drop T.heap.size).map (·.slots.size)).sum
      rw [List.drop_eq_nil_of_le (by simp)]; simp
    · show ((T.heap.toList.drop T.heap.size).map (·.slots.size)).sum ≤ 0
      rw [List.drop_eq_nil_of_le (by simp)]; simp
/-- a String that spells these bytes -/
def SC (Z : State) (h : Heap) (a : Addr) (z : Int32) (vs : List Value) : Prop := Exa Z h a "java/lang/String" ∧ Fld Z h a "java/lang/String" "coder" "B" (.int 0) ∧ ∃ (b : Addr) (k : ClassId), Fld Z h a "java/lang/String" "value" "[B" (.ref b) ∧ Arv Z h b k .byte z vs (.int 0)
theorem SC.ext {a : Addr} {z : Int32} {vs : List Value} (F : SC Z h a z vs) (E : Ext h h') : SC Z h' a z vs := by
  obtain ⟨f1, f2, b, k, f3, f4⟩ := F
  exact ⟨f1.ext E, f2.ext E, b, k, f3.ext E, f4.ext E⟩
theorem SC.wr {a s : Addr} {C : String} {n sl : Nat} {v : Value} {z : Int32} {vs : List Value} (S : SC Z h a z vs) (W : Wr h h' s sl v) (q : a ≠ s) (E : Exa Z h s C) (wi : (Jvm.Cond.instantiable C n).before a0 Z = true) : SC Z h' a z vs := by
  obtain ⟨f1, f2, b, k, f3, f4⟩ := S
  exact ⟨f1.wr W, f2.other W (Or.inl q), b, k, f3.other W (Or.inl q), f4.other W (Ne.symm (Exa.neArv E f4 wi))⟩
/-- a constant that this walk has loaded -/
theorem Go.ldcA (D : Amb κ l Z y code maxL ret rm h0 n0 Q) {idx : Nat} {text : String} {L : List (String × Nat × String × Addr)} {a : Addr} (w : (Jvm.Cond.stringLink y.cls idx text).before a0 Z = true) (ha : (y.cls, idx, text, a) ∈ L) (hd : decode code pc = .ok (.ldc idx, 2)) (hp : pc + 2 = pc') (G : Go κ (some L) h ce sl pc' ls (.ref a :: st)) : Go κ (some L) h ce sl pc ls st := by
  subst hp
  obtain ⟨p, l', e, R, s, m, args, below, meth, c, Z', n0', Q'⟩ := κ
  obtain ⟨rfl, rfl, rfl, rfl, hQ, hx, hZ, hown, hby, hml, hret, hlk, hnm, hh0⟩ := D
  intro vm0 k0 T locs X hS hk V O eT N
  have hZ0 : Z'.Warmed39 vm0 := State.Warmed39.trans (t := s) hZ hS.1
  have hown0 : vm0.findClass y.cls = some m.cls := by rw [hS.1.alike.findClass]; exact hown
  have Lt : Lit (s.setVm vm0) y.cls idx a := V.2 _ ha
  have k := ldcAgain X hx hZ0 hown0 w Lt (g := mkF m pc ls st) rfl (hb hby hd)
  obtain ⟨s₂, o, g1, g2⟩ := G vm0 k0 T locs X hS hk V O eT N
  exact ⟨s₂, o, k _ g1, g2⟩
/-- a constant whose text is read -/
theorem Go.ldcT (D : Amb κ l Z y code maxL ret rm h0 n0 Q) {idx n : Nat} {text : String} {L : List (String × Nat × String × Addr)} {vs : List Value} {z : Int32} (w : (Jvm.Cond.stringLink y.cls idx text).before a0 Z = true) (wS : ∀ a ∈ Bundle.stringAtoms, a.before a0 Z = true) (hh : Jvm.Lit.constHeld Z y.cls idx) (hcw : Jvm.Lit.compactW.before a0 Z = true)
    (ht : (∀ c ∈ text.toList, c.toNat < 256) ∧ text.toList.map (fun c => Value.int (Jvm.Lit.byteI c.toNat.toUInt16)) = vs) (hz : ¬ z < 0) (hl : z.toNatClampNeg = vs.length) (hL : (∃ a, (y.cls, idx, text, a) ∈ L) ∨ text ∉ L.map fun q => q.2.2.1) (I : ∀ a, (y.cls, idx, text, a) ∈ L → SC Z h a z vs)
    (hd : decode code pc = .ok (.ldc idx, 2)) (hp : pc + 2 = pc') (hn : 4 * text.toList.length ≤ n) (hbig : n ≤ 536870912) (hce : ce + 2 = ce') (hsl : sl + (n + 4) = sl') (hc : ce' ≤ rm.cells) (hs : sl' ≤ rm.slots)
    (G : ∀ h' a L', Ext h h' → (y.cls, idx, text, a) ∈ L' → (L' = L ∨ L' = (y.cls, idx, text, a) :: L) → SC Z h' a z vs → Go κ (some L') h' ce' sl' pc' ls (.ref a :: st)) : Go κ (some L) h ce sl pc ls st := by
  subst hp hce hsl
  obtain ⟨p, l', e, R, s, m, args, below, meth, c, Z', n0', Q'⟩ := κ
  obtain ⟨rfl, rfl, rfl, rfl, hQ, hx, hZ, hown, hby, hml, hret, hlk, hnm, hh0⟩ := D
  intro vm0 k0 T locs X hS hk V O eT N
  have hZ0 : Z'.Warmed39 vm0 := State.Warmed39.trans (t := s) hZ hS.1
  have hown0 : vm0.findClass y.cls = some m.cls := by rw [hS.1.alike.findClass]; exact hown
  rcases hL with ⟨a, ha⟩ | hnot
  · have Lt : Lit (s.setVm vm0) y.cls idx a := V.2 _ ha
    have k := ldcAgain X hx hZ0 hown0 w Lt (g := mkF m pc ls st) rfl (hb hby hd)
    obtain ⟨s₂, o, g1, g2⟩ := G h a L ⟨Nat.le_refl _, fun _ _ q => q⟩ ha (Or.inl rfl) (I a ha) vm0 k0 T locs (sd_mono X (by omega) (by omega)) hS hk V O eT N
    exact ⟨s₂, o, k _ g1, g2⟩
  · have hc0 : ce ≤ R.cells := by omega
    have hs0 : sl ≤ R.slots := by omega
    have Y := reb X hc0 hs0
    have hZT : Z'.Warmed39 T.vm := State.Warmed39.trans (t := s.setVm vm0) hZ0 X.warmed.wide
    have hownT : T.vm.findClass y.cls = some m.cls := by rw [X.warmed.alike.findClass]; exact hown0
    have VT : VOk Z' T.vm (some L) := V.warm X.warmed
    obtain ⟨a, T', h', k1, b, kb, X', eT', E, hS', hk', hW', -, F1, F2, F3, F4, -, -, hI, hLit, k⟩ := ldcSVL (s := ({ ((s.setVm vm0).setVm T.vm) with heap := T.heap, slotsUsed := T.slotsUsed } : State)) (vm0 := T.vm) Y hx hZT hownT w wS eT (k0 := h.size) ((State.WarmedH.refl _).since _) (Nat.le_refl _) (Fr.nil _) (fun b cl hb => by show T.heap[b]? = _; rw [eT]; exact O.2.2 b cl hb) VT.1 hnot hh hcw ht hz hl (g := mkF m pc ls st) rfl (hb hby hd) hn hbig (by show 0 + 2 ≤ R.cells - ce; omega) (by show 0 + (n + 4) ≤ R.slots - sl; omega)
    have hT39 : T.Warmed39 T'.vm := hS'.1
    have hTB : T.Booked T'.vm T'.heap.size := State.Booked.mono (s := T) hS'.2 (by rw [eT']; exact hk')
    have hsame : T.sameButNew (T'.setVm T.vm) [] 2 (n + 4) := by
      obtain ⟨q1, q2, q3, q4, q5, q6⟩ := X'.same
      refine ⟨?_, q2, by have := q3; simp only [Nat.zero_add] at this; exact this, q4, by have := q5; simp only [Nat.zero_add] at this; exact this, q6⟩
      have r1 := congrArg (fun u : State => u.setVm T.vm) q1
      have r2 : (T'.setVm T.vm) = ({ ((s.setVm vm0).setVm T.vm).setFrames T'.frames with heap := T'.heap, slotsUsed := T'.slotsUsed } : State) := r1
      have r3 := congrArg (fun u : State => ({ (u.setVm T.vm).setFrames T'.frames with heap := T'.heap, slotsUsed := T'.slotsUsed } : State)) X.same.1
      have r4 : ({ T.setFrames T'.frames with heap := T'.heap, slotsUsed := T'.slotsUsed } : State) = ({ (((s.setVm vm0).setVm T.vm).setFrames T.frames).setFrames T'.frames with heap := T'.heap, slotsUsed := T'.slotsUsed } : State) := r3
      rw [State.setFrames_setFrames] at r4
      exact r2.trans r4.symm
    obtain ⟨X2, hS2⟩ := X.movedW X'.here X'.tail (X'.limits.trans X.limits.symm) (X'.bytes.trans X.bytes.symm) hT39 hTB hsame
    have V2 : VOk Z' T'.vm (some ((y.cls, idx, text, a) :: L)) := by
      refine ⟨hI, fun q hq => ?_⟩
      rcases List.mem_cons.mp hq with rfl | hq
      · exact hLit
      · have h1 : Lit (T.setVm T.vm) q.1 q.2.1 q.2.2.2 := VT.2 q hq
        exact Lit.stays (s := T) (vm0 := T.vm) h1 hT39
    have hle : h.size ≤ T'.heap.size := by rw [eT']; exact E.1
    obtain ⟨s₂, o, g1, g2⟩ := G h' a _ E (List.mem_cons_self ..) (Or.inr rfl) ⟨F1, F2, b, kb, F3, F4⟩ T'.vm T'.heap.size T' (locs ++ []) X2 (hS.trans hS2 (Nat.le_trans hk hle)) (by rw [eT']; exact Nat.le_refl _) V2 (O.ext E) eT' (by rw [List.append_nil]; exact N)
    exact ⟨s₂, o, k _ g1, g2⟩
end Rules
end Jvm.OwnKit

namespace Jvm.Pilot.@@N@@
open Jvm Jvm.ClassFile Sem Op Lib Jvm.Free Jvm.Stand Jvm.LawKit Jvm.RoadKit Bundle Jvm.OwnKit Jvm.Pilot.@@N@@.Jvm.D

/-! numbers -/
theorem own_ti {i : Nat} (h : i < 2147483648) : (Int32.ofNat i).toInt = i := Int32.toInt_ofNat_small (by omega)
theorem own_tn {i : Nat} (h : i < 2147483648) : (Int32.ofNat i).toNatClampNeg = i := by simp only [Int32.toNatClampNeg, own_ti h]; rfl
theorem own_nn {i : Nat} (h : i < 2147483648) : ¬ Int32.ofNat i < 0 := by rw [Int32.lt_iff_toInt_lt, own_ti h]; show ¬ (i : Int) < 0; omega
theorem own_lt {i j : Nat} (hi : i < 2147483648) (hj : j < 2147483648) : Int32.ofNat i < Int32.ofNat j ↔ i < j := by rw [Int32.lt_iff_toInt_lt, own_ti hi, own_ti hj]; omega
theorem own_inj {i j : Nat} (hi : i < 2147483648) (hj : j < 2147483648) (h : Int32.ofNat i = Int32.ofNat j) : i = j := by
  have := congrArg Int32.toInt h; rw [own_ti hi, own_ti hj] at this; omega
theorem own_succ (i : Nat) : Int32.ofNat i + 1 = Int32.ofNat (i + 1) := Int32.ofNat_succ i
theorem own_ne {a b : Nat} (h : a < b ∨ b < a) : a ≠ b := fun e => by subst e; omega
theorem own_ltn {a b : Nat} (h : a < b) : a < b := h
/-! chars and bytes -/
def bv (cs : List Int32) : List Value := cs.map fun c => Value.int c.toInt8.toInt32
def Lat (cs : List Int32) : Prop := (∀ c ∈ cs, ¬ c < 0 ∧ c < 256) ∧ cs.length ≤ 64
theorem bv_len (cs : List Int32) : (bv cs).length = cs.length := by simp [bv]
theorem own_bb (x : Int32) : nar .byte (x.toInt8.toInt32) = x.toInt8.toInt32 := by
  show x.toInt8.toInt32.toInt8.toInt32 = x.toInt8.toInt32
  rw [Int8.toInt8_toInt32]
theorem byte_inj {c d : Int32} (hc : ¬ c < 0 ∧ c < 256) (hd : ¬ d < 0 ∧ d < 256) (h : c.toInt8.toInt32 = d.toInt8.toInt32) : c = d := by
  have a := c_i2b c
  have b := c_i2b d
  rw [h] at a
  simp only [Int32.lt_iff_toInt_lt, show (0 : Int32).toInt = 0 from rfl, show (256 : Int32).toInt = 256 from rfl] at hc hd
  apply Int32.toInt_inj.mp
  omega
theorem bv_inj {cs ds : List Int32} (hc : ∀ c ∈ cs, ¬ c < 0 ∧ c < 256) (hd : ∀ c ∈ ds, ¬ c < 0 ∧ c < 256) (h : bv cs = bv ds) : cs = ds := by
  induction cs generalizing ds with
  | nil =>
    cases ds with
    | nil => rfl
    | cons d ds => simp [bv] at h
  | cons c cs ih =>
    cases ds with
    | nil => simp [bv] at h
    | cons d ds =>
      simp only [bv, List.map_cons, List.cons.injEq, Value.int.injEq] at h
      rw [byte_inj (hc c (by simp)) (hd d (by simp)) h.1, ih (fun x hx => hc x (by simp [hx])) (fun x hx => hd x (by simp [hx])) h.2]
theorem cs_at {cs : List Int32} {i : Nat} (h : i < cs.length) (d : Value) : (cs.map Value.int).getD i d = .int cs[i] := by simp [h]
theorem bv_at {cs : List Int32} {i : Nat} (h : i < cs.length) (d : Value) : (bv cs).getD i d = .int (cs[i].toInt8.toInt32) := by simp [bv, h]
theorem own_bset {cs : List Int32} {i : Nat} (h : i < cs.length) : ((bv cs).take i ++ List.replicate (cs.length - i) (Value.int 0)).set i (.int (cs[i].toInt8.toInt32)) = (bv cs).take (i + 1) ++ List.replicate (cs.length - (i + 1)) (Value.int 0) := by
  have hl : ((bv cs).take i).length = i := by rw [List.length_take, bv_len]; omega
  rw [show cs.length - i = (cs.length - (i + 1)) + 1 by omega, List.replicate_succ, List.set_append_right _ _ (by omega), hl, Nat.sub_self, List.set_cons_zero, List.take_add_one]
  have : (bv cs)[i]? = some (Value.int (cs[i].toInt8.toInt32)) := by simp [bv, h]
  rw [this]
  simp
theorem lat_le {c : Int32} (h : ¬ c < 0 ∧ c < 256) : ¬ (255 : Int32) < c := by
  simp only [Int32.lt_iff_toInt_lt, show (0 : Int32).toInt = 0 from rfl, show (256 : Int32).toInt = 256 from rfl, show (255 : Int32).toInt = 255 from rfl] at h ⊢
  omega
/-- the String a spells cs -/
def Str (Z : State) (h : Heap) (a : Addr) (cs : List Int32) : Prop := SC Z h a (Int32.ofNat cs.length) (bv cs) ∧ Lat cs
theorem Str.ext {Z : State} {h h' : Heap} {a : Addr} {cs : List Int32} (S : Str Z h a cs) (E : Ext h h') : Str Z h' a cs := ⟨S.1.ext E, S.2⟩
theorem Arv.uniq {Z : State} {h : Heap} {a : Addr} {k k' : ClassId} {ty : FieldType} {n n' : Int32} {vs ws : List Value} {d : Value} (A : Arv Z h a k ty n vs d) (B : Arv Z h a k' ty n' ws d) (hv : vs.length = n.toNatClampNeg) (hw : ws.length = n'.toNatClampNeg) : vs = ws := by
  obtain ⟨c, A1, -, A3, -, A5, -⟩ := A
  obtain ⟨c', B1, -, B3, -, B5, -⟩ := B
  cases A1.1.symm.trans B1.1
  apply List.ext_getElem (by omega)
  intro i h1 h2
  have q := (A5 i (by omega)).symm.trans (B5 i (by omega))
  simpa [h1, h2] using q
theorem Str.uniq {Z : State} {h : Heap} {a : Addr} {cs ds : List Int32} (S : Str Z h a cs) (S' : Str Z h a ds) : cs = ds := by
  obtain ⟨⟨-, -, b, k, F, A⟩, l1, l2⟩ := S
  obtain ⟨⟨-, -, b', k', F', A'⟩, l1', l2'⟩ := S'
  have e : b = b' := Classical.byContradiction fun q => Fld.ne F F' (fun z => q (by injection z)) rfl
  subst e
  exact bv_inj l1 l1' (Arv.uniq A A' (by rw [bv_len, own_tn (by omega)]) (by rw [bv_len, own_tn (by omega)]))
theorem Str.keep {Z : State} {a0 : Array Value} {h h' : Heap} {a s : Addr} {C : String} {n : Nat} {cs : List Int32} (S : Str Z h a cs) (K : Keep h h' [s]) (q : a ≠ s) (E : Exa Z h s C) (wi : (Jvm.Cond.instantiable C n).before a0 Z = true) : Str Z h' a cs := by
  obtain ⟨⟨f1, f2, b, k, f3, f4⟩, l⟩ := S
  exact ⟨⟨f1.keep K, f2.keep K (nin1 q), b, k, f3.keep K (nin1 q), f4.keep K (nin1 (Ne.symm (Exa.neArv E f4 wi)))⟩, l⟩
/-! the constants that are loaded -/
def tb (t : String) : List Value := t.toList.map fun c => Value.int (Jvm.Lit.byteI c.toNat.toUInt16)
def CsOk (CS : List (String × Nat × String)) (Z : State) (h : Heap) (L : List (String × Nat × String × Addr)) : Prop := ∀ q ∈ L, (q.1, q.2.1, q.2.2.1) ∈ CS ∧ SC Z h q.2.2.2 (Int32.ofNat (tb q.2.2.1).length) (tb q.2.2.1)
theorem CsOk.nil {CS : List (String × Nat × String)} {Z : State} {h : Heap} : CsOk CS Z h [] := fun q hq => nomatch hq
theorem CsOk.ext {CS : List (String × Nat × String)} {Z : State} {h h' : Heap} {L : List (String × Nat × String × Addr)} (C : CsOk CS Z h L) (E : Ext h h') : CsOk CS Z h' L := fun q hq => ⟨(C q hq).1, (C q hq).2.ext E⟩
theorem CsOk.wr {CS : List (String × Nat × String)} {Z : State} {a0 : Array Value} {h h' : Heap} {L : List (String × Nat × String × Addr)} {s : Addr} {C : String} {n sl : Nat} {v : Value} (K : CsOk CS Z h L) (W : Wr h h' s sl v) (hq : ∀ q ∈ L, q.2.2.2 ≠ s) (E : Exa Z h s C) (wi : (Jvm.Cond.instantiable C n).before a0 Z = true) : CsOk CS Z h' L := fun q hm => ⟨(K q hm).1, (K q hm).2.wr W (hq q hm) E wi⟩
theorem CsOk.has {CS : List (String × Nat × String)} {Z : State} {h : Heap} {L : List (String × Nat × String × Addr)} (K : CsOk CS Z h L) {own text : String} {idx : Nat} (hu : ∀ c ∈ CS, c.2.2 = text → c = (own, idx, text)) : (∃ a, (own, idx, text, a) ∈ L) ∨ text ∉ L.map fun q => q.2.2.1 := by
  by_cases q : text ∈ L.map fun q => q.2.2.1
  · obtain ⟨x, hx, e⟩ := List.mem_map.mp q
    have := hu _ (K x hx).1 e
    obtain ⟨x1, x2, x3, x4⟩ := x
    simp only [Prod.mk.injEq] at this
    obtain ⟨rfl, rfl, rfl⟩ := this
    exact Or.inl ⟨x4, hx⟩
  · exact Or.inr q
theorem CsOk.step {CS : List (String × Nat × String)} {Z : State} {h h' : Heap} {L L' : List (String × Nat × String × Addr)} {own text : String} {idx : Nat} {a : Addr} (K : CsOk CS Z h L) (E : Ext h h') (hm : (own, idx, text) ∈ CS) (hL : L' = L ∨ L' = (own, idx, text, a) :: L) (S : SC Z h' a (Int32.ofNat (tb text).length) (tb text)) : CsOk CS Z h' L' := by
  rcases hL with rfl | rfl
  · exact K.ext E
  · intro q hq
    rcases List.mem_cons.mp hq with rfl | hq
    · exact ⟨hm, S⟩
    · exact (K.ext E) q hq

abbrev CS : List (String × Nat × String) := [("x", 7, "ns")]
theorem wS {Z : State} {a0 : Array Value} (hw : ∀ d ∈ tables_1, d.before a0 Z = true) : ∀ a ∈ Bundle.stringAtoms, a.before a0 Z = true := fun a ha => hw a ((by decide +kernel : ∀ a ∈ Bundle.stringAtoms, a ∈ tables_1) a ha)
def Pos32 (x : UInt32) : Prop := x.toNat < 2139095040
theorem Pos32.fin {x : UInt32} (h : Pos32 x) : Jvm.Free.Fl.Fin32 x := (Jvm.Free.Fl.fin32_iff x).mpr (by unfold Pos32 at h; omega)
theorem Pos32.abs {x : UInt32} (h : Pos32 x) : (x &&& 0x7fffffff) = x := by
  apply UInt32.toNat_inj.mp
  rw [Jvm.Free.Fl.abs_toNatF]
  unfold Pos32 at h
  omega
theorem Pos32.val {x : UInt32} (h : Pos32 x) : FP.Core.val32 x ≠ .nan := by
  obtain ⟨s, c, q, e⟩ := Jvm.Free.Fl.fin32_core.mp h.fin
  rw [e]
  exact fun z => nomatch z
theorem Pos32.key {x : UInt32} (h : Pos32 x) : FP.Core.fkey x = (x.toNat : Int) := by
  unfold Pos32 at h
  unfold FP.Core.fkey
  rw [if_neg (by omega)]
theorem pos_cmp {x z : UInt32} (h : Pos32 x) (hz : Pos32 z) : FP.fcmp x z = some (compare (x.toNat : Int) (z.toNat : Int)) := by
  rw [FP.fcmp_core, FP.Core.fcmp_key h.val hz.val, h.key, hz.key]
theorem pos_cmp0 {x : UInt32} (h : Pos32 x) : ¬ cmpValue (FP.fcmp x (0 : UInt32)) .l < 0 := by
  rw [pos_cmp h (by unfold Pos32; decide)]
  have : compare (x.toNat : Int) ((0 : UInt32).toNat : Int) ≠ .lt := by
    rw [ne_eq, Int.compare_eq_lt]
    show ¬ (x.toNat : Int) < 0
    omega
  cases q : compare (x.toNat : Int) ((0 : UInt32).toNat : Int) with
  | lt => exact absurd q this
  | eq => decide
  | gt => decide
theorem pos_cmpM {x : UInt32} (h : Pos32 x) : ¬ 0 < cmpValue (FP.fcmp x (2139095039 : UInt32)) .l := by
  rw [pos_cmp h (by unfold Pos32; decide)]
  have : compare (x.toNat : Int) ((2139095039 : UInt32).toNat : Int) ≠ .gt := by
    rw [ne_eq, Int.compare_eq_gt]
    show ¬ (2139095039 : Int) < (x.toNat : Int)
    unfold Pos32 at h
    omega
  cases q : compare (x.toNat : Int) ((2139095039 : UInt32).toNat : Int) with
  | lt => decide
  | eq => decide
  | gt => exact absurd q this
theorem pos_i2f {k : Int32} (h : 0 ≤ k.toInt) : Pos32 (FP.i2f k) := by
  rw [i2f_w]
  have a := abs_w32 (a := k.toInt64) (by rw [Int64.lt_iff_toInt_lt, Int32.toInt_toInt64]; show ¬ k.toInt < 0; omega)
  have f := (Jvm.Free.Fl.fin32_iff _).mp (Jvm.Free.Fl.l2f_fin k.toInt64)
  have e := congrArg UInt32.toNat a
  rw [Jvm.Free.Fl.abs_toNatF] at e
  unfold Pos32
  omega

def QB (Z : State) (h : Heap) (t : Addr) (v : Int32) (a b : UInt32) : Prop := Exa Z h t "com/example/comb/comb/search/QueryOptions" ∧ Fld Z h t "com/example/comb/comb/search/QueryOptions" "compoundWeights" "Z" (.int v) ∧ Fld Z h t "com/example/comb/comb/search/QueryOptions" "leadWeight" "F" (.float a) ∧ Fld Z h t "com/example/comb/comb/search/QueryOptions" "bigramWeight" "F" (.float b)
theorem QB.ext {Z : State} {h h' : Heap} {t : Addr} {v : Int32} {a b : UInt32} (F : QB Z h t v a b) (E : Ext h h') : QB Z h' t v a b := ⟨F.1.ext E, F.2.1.ext E, F.2.2.1.ext E, F.2.2.2.ext E⟩
theorem QB.set1 {Z : State} {a0 : Array Value} (hw : ∀ d ∈ tables_1, d.before a0 Z = true) {h h' : Heap} {t : Addr} {v : Int32} {a b : UInt32} {w : Int32} (F : QB Z h t v a b) (W : Wr h h' t (Jvm.RoadKit.slotOf Z "com/example/comb/comb/search/QueryOptions" "compoundWeights" "Z") (.int w)) : QB Z h' t w a b := ⟨F.1.wr W, F.2.1.same W, F.2.2.1.other W (Or.inr (slot_ne (Or.inr (hw _ (List.mem_of_getElem? (i := 16) rfl))) (Or.inr (hw _ (List.mem_of_getElem? (i := 14) rfl))) (by decide) (t := .float) (t' := .boolean) (by decide) (by decide))), F.2.2.2.other W (Or.inr (slot_ne (Or.inr (hw _ (List.mem_of_getElem? (i := 18) rfl))) (Or.inr (hw _ (List.mem_of_getElem? (i := 14) rfl))) (by decide) (t := .float) (t' := .boolean) (by decide) (by decide)))⟩
theorem QB.set2 {Z : State} {a0 : Array Value} (hw : ∀ d ∈ tables_1, d.before a0 Z = true) {h h' : Heap} {t : Addr} {v : Int32} {a b : UInt32} {w : UInt32} (F : QB Z h t v a b) (W : Wr h h' t (Jvm.RoadKit.slotOf Z "com/example/comb/comb/search/QueryOptions" "leadWeight" "F") (.float w)) : QB Z h' t v w b := ⟨F.1.wr W, F.2.1.other W (Or.inr (slot_ne (Or.inr (hw _ (List.mem_of_getElem? (i := 14) rfl))) (Or.inr (hw _ (List.mem_of_getElem? (i := 16) rfl))) (by decide) (t := .boolean) (t' := .float) (by decide) (by decide))), F.2.2.1.same W, F.2.2.2.other W (Or.inr (slot_ne (Or.inr (hw _ (List.mem_of_getElem? (i := 18) rfl))) (Or.inr (hw _ (List.mem_of_getElem? (i := 16) rfl))) (by decide) (t := .float) (t' := .float) (by decide) (by decide)))⟩
theorem QB.set3 {Z : State} {a0 : Array Value} (hw : ∀ d ∈ tables_1, d.before a0 Z = true) {h h' : Heap} {t : Addr} {v : Int32} {a b : UInt32} {w : UInt32} (F : QB Z h t v a b) (W : Wr h h' t (Jvm.RoadKit.slotOf Z "com/example/comb/comb/search/QueryOptions" "bigramWeight" "F") (.float w)) : QB Z h' t v a w := ⟨F.1.wr W, F.2.1.other W (Or.inr (slot_ne (Or.inr (hw _ (List.mem_of_getElem? (i := 14) rfl))) (Or.inr (hw _ (List.mem_of_getElem? (i := 18) rfl))) (by decide) (t := .boolean) (t' := .float) (by decide) (by decide))), F.2.2.1.other W (Or.inr (slot_ne (Or.inr (hw _ (List.mem_of_getElem? (i := 16) rfl))) (Or.inr (hw _ (List.mem_of_getElem? (i := 18) rfl))) (by decide) (t := .float) (t' := .float) (by decide) (by decide))), F.2.2.2.same W⟩

abbrev y2 : MethodName := ⟨"com/example/comb/comb/search/QueryOptions", "<init>", "(ZFF)V"⟩
theorem d2_0 : decode prog_34_method_2_code 0 = .ok (.aload_n 0, 1) := by decide +kernel
theorem d2_1 : decode prog_34_method_2_code 1 = .ok (.invokespecial 7, 3) := by decide +kernel
theorem d2_4 : decode prog_34_method_2_code 4 = .ok (.aload_n 0, 1) := by decide +kernel
theorem d2_5 : decode prog_34_method_2_code 5 = .ok (.iload_n 1, 1) := by decide +kernel
theorem d2_6 : decode prog_34_method_2_code 6 = .ok (.putfield 12, 3) := by decide +kernel
theorem d2_9 : decode prog_34_method_2_code 9 = .ok (.aload_n 0, 1) := by decide +kernel
theorem d2_10 : decode prog_34_method_2_code 10 = .ok (.fload_n 2, 1) := by decide +kernel
theorem d2_11 : decode prog_34_method_2_code 11 = .ok (.putfield 16, 3) := by decide +kernel
theorem d2_14 : decode prog_34_method_2_code 14 = .ok (.aload_n 0, 1) := by decide +kernel
theorem d2_15 : decode prog_34_method_2_code 15 = .ok (.fload_n 3, 1) := by decide +kernel
theorem d2_16 : decode prog_34_method_2_code 16 = .ok (.putfield 20, 3) := by decide +kernel
theorem d2_19 : decode prog_34_method_2_code 19 = .ok (.return_, 1) := by decide +kernel
theorem pd2 : parseMethodDescriptor "(ZFF)V" = some ⟨[.boolean, .float, .float], none⟩ := by decide +kernel
theorem pn2 : plainFor y2 = true := by first | exact plainFor_of_name (by first | (simp [plainName, overriddenIn]; done) | decide +kernel) | decide +kernel | rfl
set_option maxRecDepth 65536 in
set_option maxHeartbeats 40000000 in
theorem con_init3 (l : Launch) (Z : State) (a0 : Array Value) (hw : ∀ d ∈ tables_1, d.before a0 Z = true) (h0 : Heap) (n0 : Nat) (σ : Sg) (t : Addr) (x : Int32) (a b : UInt32) (hx : x = 0 ∨ x = 1) (g0 : n0 ≤ t) (Fq : QB Z h0 t 0 0 0) :
    Con l Z y2 prog_34_method_2_code 4 none ({ frames := 1, cells := 0, slots := 0, locals := 12 } : Room) [] #[(.ref t), (.int x), (.float a), (.float b)] σ h0 n0 (fun v h τ => σ = τ ∧ v = none ∧ Keep h0 h [t] ∧ QB Z h t x a b) := by
  refine Con.of_go pn2 (ls := #[.val (.ref t), .val (.int x), .val (.float a), .val (.float b)]) (fun m => by first | (simp [entryFrame, mkF, argsToLocals, Value.category]; done) | rfl) ?_
  intro κ D
  rcases hx with rfl | rfl
  · skip
    refine Go.aloadN D (pc' := 1) d2_0 rfl rfl rfl ?_
    refine Go.initO D (pc' := 4) (hw _ (List.mem_of_getElem? (i := 10) rfl)) (hw _ (List.mem_of_getElem? (i := 11) rfl)) (hw _ (List.mem_of_getElem? (i := 12) rfl)) d2_1 rfl rfl (by decide) (W := 0) rfl (by decide) ?_
    refine Go.aloadN D (pc' := 5) d2_4 rfl rfl rfl ?_
    refine Go.iloadN D (pc' := 6) d2_5 rfl rfl ?_
    refine Go.putF D (pc' := 9) (hw _ (List.mem_of_getElem? (i := 13) rfl)) d2_6 rfl Fq.2.1 Fq.1 (Or.inr ⟨(hw _ (List.mem_of_getElem? (i := 14) rfl)), rfl, rfl⟩) (hw _ (List.mem_of_getElem? (i := 2) rfl)) (ty := .boolean) (by decide) rfl rfl g0 ?_
    intro h1 W1
    have F1 := Fq.set1 hw W1
    refine Go.aloadN D (pc' := 10) d2_9 rfl rfl rfl ?_
    refine Go.floadN D (pc' := 11) d2_10 rfl rfl ?_
    refine Go.putF D (pc' := 14) (hw _ (List.mem_of_getElem? (i := 15) rfl)) d2_11 rfl F1.2.2.1 F1.1 (Or.inr ⟨(hw _ (List.mem_of_getElem? (i := 16) rfl)), rfl, rfl⟩) (hw _ (List.mem_of_getElem? (i := 2) rfl)) (ty := .float) (by decide) rfl rfl g0 ?_
    intro h2 W2
    have F2 := F1.set2 hw W2
    refine Go.aloadN D (pc' := 15) d2_14 rfl rfl rfl ?_
    refine Go.floadN D (pc' := 16) d2_15 rfl rfl ?_
    refine Go.putF D (pc' := 19) (hw _ (List.mem_of_getElem? (i := 17) rfl)) d2_16 rfl F2.2.2.2 F2.1 (Or.inr ⟨(hw _ (List.mem_of_getElem? (i := 18) rfl)), rfl, rfl⟩) (hw _ (List.mem_of_getElem? (i := 2) rfl)) (ty := .float) (by decide) rfl rfl g0 ?_
    intro h3 W3
    refine Go.vret D rfl d2_19 (by decide) (by decide) ?_
    exact ⟨rfl, rfl, (((Keep.refl _ _).wr W1 (Or.inl (by simp))).wr W2 (Or.inl (by simp))).wr W3 (Or.inl (by simp)), F2.set3 hw W3⟩
  · skip
    refine Go.aloadN D (pc' := 1) d2_0 rfl rfl rfl ?_
    refine Go.initO D (pc' := 4) (hw _ (List.mem_of_getElem? (i := 10) rfl)) (hw _ (List.mem_of_getElem? (i := 11) rfl)) (hw _ (List.mem_of_getElem? (i := 12) rfl)) d2_1 rfl rfl (by decide) (W := 0) rfl (by decide) ?_
    refine Go.aloadN D (pc' := 5) d2_4 rfl rfl rfl ?_
    refine Go.iloadN D (pc' := 6) d2_5 rfl rfl ?_
    refine Go.putF D (pc' := 9) (hw _ (List.mem_of_getElem? (i := 13) rfl)) d2_6 rfl Fq.2.1 Fq.1 (Or.inr ⟨(hw _ (List.mem_of_getElem? (i := 14) rfl)), rfl, rfl⟩) (hw _ (List.mem_of_getElem? (i := 2) rfl)) (ty := .boolean) (by decide) rfl rfl g0 ?_
    intro h1 W1
    have F1 := Fq.set1 hw W1
    refine Go.aloadN D (pc' := 10) d2_9 rfl rfl rfl ?_
    refine Go.floadN D (pc' := 11) d2_10 rfl rfl ?_
    refine Go.putF D (pc' := 14) (hw _ (List.mem_of_getElem? (i := 15) rfl)) d2_11 rfl F1.2.2.1 F1.1 (Or.inr ⟨(hw _ (List.mem_of_getElem? (i := 16) rfl)), rfl, rfl⟩) (hw _ (List.mem_of_getElem? (i := 2) rfl)) (ty := .float) (by decide) rfl rfl g0 ?_
    intro h2 W2
    have F2 := F1.set2 hw W2
    refine Go.aloadN D (pc' := 15) d2_14 rfl rfl rfl ?_
    refine Go.floadN D (pc' := 16) d2_15 rfl rfl ?_
    refine Go.putF D (pc' := 19) (hw _ (List.mem_of_getElem? (i := 17) rfl)) d2_16 rfl F2.2.2.2 F2.1 (Or.inr ⟨(hw _ (List.mem_of_getElem? (i := 18) rfl)), rfl, rfl⟩) (hw _ (List.mem_of_getElem? (i := 2) rfl)) (ty := .float) (by decide) rfl rfl g0 ?_
    intro h3 W3
    refine Go.vret D rfl d2_19 (by decide) (by decide) ?_
    exact ⟨rfl, rfl, (((Keep.refl _ _).wr W1 (Or.inl (by simp))).wr W2 (Or.inl (by simp))).wr W3 (Or.inl (by simp)), F2.set3 hw W3⟩
abbrev y1 : MethodName := ⟨"com/example/comb/comb/search/QueryOptions", "<init>", "()V"⟩
theorem d1_0 : decode prog_34_method_1_code 0 = .ok (.aload_n 0, 1) := by decide +kernel
theorem d1_1 : decode prog_34_method_1_code 1 = .ok (.iconst 0, 1) := by decide +kernel
theorem d1_2 : decode prog_34_method_1_code 2 = .ok (.fconst 0, 1) := by decide +kernel
theorem d1_3 : decode prog_34_method_1_code 3 = .ok (.fconst 0, 1) := by decide +kernel
theorem d1_4 : decode prog_34_method_1_code 4 = .ok (.invokespecial 1, 3) := by decide +kernel
theorem d1_7 : decode prog_34_method_1_code 7 = .ok (.return_, 1) := by decide +kernel
theorem pd1 : parseMethodDescriptor "()V" = some ⟨[], none⟩ := by decide +kernel
theorem pn1 : plainFor y1 = true := by first | exact plainFor_of_name (by first | (simp [plainName, overriddenIn]; done) | decide +kernel) | decide +kernel | rfl
set_option maxRecDepth 65536 in
set_option maxHeartbeats 40000000 in
theorem con_init0 (l : Launch) (Z : State) (a0 : Array Value) (hw : ∀ d ∈ tables_1, d.before a0 Z = true) (h0 : Heap) (n0 : Nat) (σ : Sg) (t : Addr) (g0 : n0 ≤ t) (Fq : QB Z h0 t 0 0 0) :
    Con l Z y1 prog_34_method_1_code 1 none ({ frames := 2, cells := 0, slots := 0, locals := 28 } : Room) [] #[(.ref t)] σ h0 n0 (fun v h τ => σ = τ ∧ v = none ∧ Keep h0 h [t] ∧ QB Z h t 0 0 0) := by
  refine Con.of_go pn1 (ls := #[.val (.ref t)]) (fun m => by first | (simp [entryFrame, mkF, argsToLocals, Value.category]; done) | rfl) ?_
  intro κ D
  refine Go.aloadN D (pc' := 1) d1_0 rfl rfl rfl ?_
  refine Go.iconst D (pc' := 2) d1_1 rfl (v := (0 : Int32)) rfl ?_
  refine Go.fconst0 D (pc' := 3) d1_2 rfl (v := (0 : UInt32)) rfl ?_
  refine Go.fconst0 D (pc' := 4) d1_3 rfl (v := (0 : UInt32)) rfl ?_
  refine Go.callI D (argsL := [(.int (0 : Int32)), (.float (0 : UInt32)), (.float (0 : UInt32))]) (rest := []) (pc' := 7) (ce' := 0) (sl' := 0) (con_init3 l Z a0 hw h0 n0 σ t 0 0 0 (Or.inl rfl) g0 Fq) rfl (hw _ (List.mem_of_getElem? (i := 7) rfl)) (hw _ (List.mem_of_getElem? (i := 8) rfl)) (hw _ (List.mem_of_getElem? (i := 3) rfl)) (hw _ (List.mem_of_getElem? (i := 9) rfl)) (by decide) d1_4 rfl pd2 rfl rfl rfl (by decide) (W := 0) rfl (by decide) (by decide) (by decide) (by decide) (by decide) ?_
  intro v4 h1 σ4 q4
  obtain ⟨rfl, rfl, k1, F1⟩ := q4
  show Go κ σ h1 0 0 7 #[.val (.ref t)] []
  refine Go.vret D rfl d1_7 (by decide) (by decide) ?_
  exact ⟨rfl, rfl, k1, F1⟩
abbrev y7 : MethodName := ⟨"java/lang/Float", "isInfinite", "(F)Z"⟩
theorem d7_0 : decode jdk_118_method_7_code 0 = .ok (.fload_n 0, 1) := by decide +kernel
theorem d7_1 : decode jdk_118_method_7_code 1 = .ok (.invokestatic 11, 3) := by decide +kernel
theorem d7_4 : decode jdk_118_method_7_code 4 = .ok (.ldc 49, 2) := by decide +kernel
theorem d7_6 : decode jdk_118_method_7_code 6 = .ok (.fcmp .l, 1) := by decide +kernel
theorem d7_7 : decode jdk_118_method_7_code 7 = .ok (.ifCond .le 7, 3) := by decide +kernel
theorem d7_10 : decode jdk_118_method_7_code 10 = .ok (.iconst 1, 1) := by decide +kernel
theorem d7_11 : decode jdk_118_method_7_code 11 = .ok (.goto 4, 3) := by decide +kernel
theorem d7_14 : decode jdk_118_method_7_code 14 = .ok (.iconst 0, 1) := by decide +kernel
theorem d7_15 : decode jdk_118_method_7_code 15 = .ok (.ireturn, 1) := by decide +kernel
theorem pd7 : parseMethodDescriptor "(F)Z" = some ⟨[.float], (some .boolean)⟩ := by decide +kernel
theorem pn7 : plainFor y7 = true := by first | exact plainFor_of_name (by first | (simp [plainName, overriddenIn]; done) | decide +kernel) | decide +kernel | rfl
set_option maxRecDepth 65536 in
set_option maxHeartbeats 40000000 in
theorem con_isinf (l : Launch) (Z : State) (a0 : Array Value) (hw : ∀ d ∈ tables_1, d.before a0 Z = true) (h0 : Heap) (n0 : Nat) (σ : Sg) (x : UInt32) (hx : Pos32 x) :
    Con l Z y7 jdk_118_method_7_code 1 ((some .boolean)) ({ frames := 1, cells := 0, slots := 0, locals := 12 } : Room) [] #[(.float x)] σ h0 n0 (fun v h τ => h0 = h ∧ σ = τ ∧ v = some (.int 0)) := by
  refine Con.of_go pn7 (ls := #[.val (.float x)]) (fun m => by first | (simp [entryFrame, mkF, argsToLocals, Value.category]; done) | rfl) ?_
  intro κ D
  refine Go.floadN D (pc' := 1) d7_0 rfl rfl ?_
  refine Go.absF D (pc' := 4) (hw _ (List.mem_of_getElem? (i := 45) rfl)) (hw _ (List.mem_of_getElem? (i := 46) rfl)) (hw _ (List.mem_of_getElem? (i := 47) rfl)) (hw _ (List.mem_of_getElem? (i := 48) rfl)) hx.fin.noNaN d7_1 rfl rfl (by decide) (W := 0) rfl (by decide) (by decide) (by decide) ?_
  rw [hx.abs]
  refine Go.ldcF D (pc' := 6) (hw _ (List.mem_of_getElem? (i := 49) rfl)) d7_4 rfl ?_
  refine Go.fcmp D (pc' := 7) d7_6 rfl  ?_
  refine Go.ifc D (pc' := 14) (pc2 := 10) d7_7 (by decide) (by decide) rfl ?_ ?_
  · intro (hc7 : ¬ 0 < (cmpValue (FP.fcmp x (2139095039 : UInt32)) .l))
    refine Go.iconst D (pc' := 15) d7_14 rfl (v := (0 : Int32)) rfl ?_
    refine Go.zret D rfl rfl d7_15 (by decide) (by decide) ?_
    exact ⟨rfl, rfl, rfl⟩
  · intro (hc7 : 0 < (cmpValue (FP.fcmp x (2139095039 : UInt32)) .l))
    exact absurd hc7 (pos_cmpM hx)
abbrev y6 : MethodName := ⟨"com/example/comb/comb/search/QueryOptions", "checkWeight", "(FLjava/lang/String;)F"⟩
theorem d6_0 : decode prog_34_method_9_code 0 = .ok (.fload_n 0, 1) := by decide +kernel
theorem d6_1 : decode prog_34_method_9_code 1 = .ok (.fconst 0, 1) := by decide +kernel
theorem d6_2 : decode prog_34_method_9_code 2 = .ok (.fcmp .l, 1) := by decide +kernel
theorem d6_3 : decode prog_34_method_9_code 3 = .ok (.ifCond .lt 10, 3) := by decide +kernel
theorem d6_6 : decode prog_34_method_9_code 6 = .ok (.fload_n 0, 1) := by decide +kernel
theorem d6_7 : decode prog_34_method_9_code 7 = .ok (.invokestatic 31, 3) := by decide +kernel
theorem d6_10 : decode prog_34_method_9_code 10 = .ok (.ifCond .eq 18, 3) := by decide +kernel
theorem d6_28 : decode prog_34_method_9_code 28 = .ok (.fload_n 0, 1) := by decide +kernel
theorem d6_29 : decode prog_34_method_9_code 29 = .ok (.freturn, 1) := by decide +kernel
theorem pd6 : parseMethodDescriptor "(FLjava/lang/String;)F" = some ⟨[.float, (.object "java/lang/String")], (some .float)⟩ := by decide +kernel
theorem pn6 : plainFor y6 = true := by first | exact plainFor_of_name (by first | (simp [plainName, overriddenIn]; done) | decide +kernel) | decide +kernel | rfl
set_option maxRecDepth 65536 in
set_option maxHeartbeats 40000000 in
theorem con_chkw (l : Launch) (Z : State) (a0 : Array Value) (hw : ∀ d ∈ tables_1, d.before a0 Z = true) (h0 : Heap) (n0 : Nat) (σ : Sg) (x : UInt32) (hx : Pos32 x) (u : Addr) :
    Con l Z y6 prog_34_method_9_code 2 ((some .float)) ({ frames := 2, cells := 0, slots := 0, locals := 24 } : Room) [] #[(.float x), (.ref u)] σ h0 n0 (fun v h τ => h0 = h ∧ σ = τ ∧ v = some (.float x)) := by
  refine Con.of_go pn6 (ls := #[.val (.float x), .val (.ref u)]) (fun m => by first | (simp [entryFrame, mkF, argsToLocals, Value.category]; done) | rfl) ?_
  intro κ D
  refine Go.floadN D (pc' := 1) d6_0 rfl rfl ?_
  refine Go.fconst0 D (pc' := 2) d6_1 rfl (v := (0 : UInt32)) rfl ?_
  refine Go.fcmp D (pc' := 3) d6_2 rfl  ?_
  refine Go.ifc D (pc' := 13) (pc2 := 6) d6_3 (by decide) (by decide) rfl ?_ ?_
  · intro (hc3 : (cmpValue (FP.fcmp x (0 : UInt32)) .l) < 0)
    exact absurd hc3 (pos_cmp0 hx)
  · intro (hc3 : ¬ (cmpValue (FP.fcmp x (0 : UInt32)) .l) < 0)
    refine Go.floadN D (pc' := 7) d6_6 rfl rfl ?_
    refine Go.callS D (argsL := [(.float x)]) (rest := []) (pc' := 10) (ce' := 0) (sl' := 0) (con_isinf l Z a0 hw h0 n0 σ x hx) (hw _ (List.mem_of_getElem? (i := 41) rfl)) (hw _ (List.mem_of_getElem? (i := 42) rfl)) (hw _ (List.mem_of_getElem? (i := 43) rfl)) (hw _ (List.mem_of_getElem? (i := 44) rfl)) (by decide) d6_7 rfl pd7 rfl rfl rfl (by decide) (W := 0) rfl (by decide) (by decide) (by decide) (by decide) (by decide) ?_
    intro v7 h7 σ7 q7
    obtain ⟨rfl, rfl, rfl⟩ := q7
    show Go κ σ h0 0 0 10 #[.val (.float x), .val (.ref u)] [(.int (0 : Int32))]
    refine Go.ifc D (pc' := 28) (pc2 := 13) d6_10 (by decide) (by decide) rfl (fun _ => ?_) (fun (hc : ¬ (0 : Int32) = 0) => absurd hc (by decide))
    refine Go.floadN D (pc' := 29) d6_28 rfl rfl ?_
    refine Go.fret D rfl d6_29 (by decide) (by decide) ?_
    exact ⟨rfl, rfl, rfl⟩
abbrev y4 : MethodName := ⟨"com/example/comb/comb/search/QueryOptions", "withCompoundWeights", "(Z)Lcom/example/comb/comb/search/QueryOptions;"⟩
theorem d4_0 : decode prog_34_method_3_code 0 = .ok (.new 2, 3) := by decide +kernel
theorem d4_3 : decode prog_34_method_3_code 3 = .ok (.dup, 1) := by decide +kernel
theorem d4_4 : decode prog_34_method_3_code 4 = .ok (.iload_n 1, 1) := by decide +kernel
theorem d4_5 : decode prog_34_method_3_code 5 = .ok (.aload_n 0, 1) := by decide +kernel
theorem d4_6 : decode prog_34_method_3_code 6 = .ok (.getfield 16, 3) := by decide +kernel
theorem d4_9 : decode prog_34_method_3_code 9 = .ok (.aload_n 0, 1) := by decide +kernel
theorem d4_10 : decode prog_34_method_3_code 10 = .ok (.getfield 20, 3) := by decide +kernel
theorem d4_13 : decode prog_34_method_3_code 13 = .ok (.invokespecial 1, 3) := by decide +kernel
theorem d4_16 : decode prog_34_method_3_code 16 = .ok (.areturn, 1) := by decide +kernel
theorem pd4 : parseMethodDescriptor "(Z)Lcom/example/comb/comb/search/QueryOptions;" = some ⟨[.boolean], (some (.object "com/example/comb/comb/search/QueryOptions"))⟩ := by decide +kernel
theorem pn4 : plainFor y4 = true := by first | exact plainFor_of_name (by first | (simp [plainName, overriddenIn]; done) | decide +kernel) | decide +kernel | rfl
set_option maxRecDepth 65536 in
set_option maxHeartbeats 40000000 in
theorem con_wcw (l : Launch) (Z : State) (a0 : Array Value) (hw : ∀ d ∈ tables_1, d.before a0 Z = true) (h0 : Heap) (n0 : Nat) (Z0 : n0 ≤ h0.size) (t : Addr) (v0 : Int32) (a b : UInt32) (Fq : QB Z h0 t v0 a b) (x : Int32) (hx : x = 0 ∨ x = 1) :
    Con l Z y4 prog_34_method_3_code 2 ((some (.object "com/example/comb/comb/search/QueryOptions"))) ({ frames := 2, cells := 1, slots := 3, locals := 45 } : Room) [] #[(.ref t), (.int x)] none h0 n0 (fun v h τ => τ = none ∧ ∃ t', v = some (.ref t') ∧ h0.size ≤ t' ∧ Ext h0 h ∧ QB Z h t' x a b) := by
  refine Con.of_go pn4 (ls := #[.val (.ref t), .val (.int x)]) (fun m => by first | (simp [entryFrame, mkF, argsToLocals, Value.category]; done) | rfl) ?_
  intro κ D
  refine Go.newO D (pc' := 3) (ce' := 1) (sl' := 3) (hw _ (List.mem_of_getElem? (i := 24) rfl)) (hw _ (List.mem_of_getElem? (i := 2) rfl)) (hw _ (List.mem_of_getElem? (i := 3) rfl)) d4_0 rfl rfl rfl (by decide) (by decide) ?_
  intro h1 u gu E1 X1 Y1
  have N1 : QB Z h1 u 0 0 0 := ⟨X1, Y1 (Or.inr (hw _ (List.mem_of_getElem? (i := 14) rfl))) (ty := .boolean) (by decide), Y1 (Or.inr (hw _ (List.mem_of_getElem? (i := 16) rfl))) (ty := .float) (by decide), Y1 (Or.inr (hw _ (List.mem_of_getElem? (i := 18) rfl))) (ty := .float) (by decide)⟩
  refine Go.dup D (pc' := 4) d4_3 rfl rfl ?_
  refine Go.iloadN D (pc' := 5) d4_4 rfl rfl ?_
  refine Go.aloadN D (pc' := 6) d4_5 rfl rfl rfl ?_
  refine Go.getF D (pc' := 9) (hw _ (List.mem_of_getElem? (i := 15) rfl)) d4_6 rfl (Fq.ext E1).2.2.1 ?_
  refine Go.aloadN D (pc' := 10) d4_9 rfl rfl rfl ?_
  refine Go.getF D (pc' := 13) (hw _ (List.mem_of_getElem? (i := 17) rfl)) d4_10 rfl (Fq.ext E1).2.2.2 ?_
  refine Go.callI D (argsL := [(.int x), (.float a), (.float b)]) (rest := [(.ref u)]) (pc' := 16) (ce' := 1) (sl' := 3) (con_init3 l Z a0 hw h1 n0 none u x a b hx (by omega) N1) rfl (hw _ (List.mem_of_getElem? (i := 7) rfl)) (hw _ (List.mem_of_getElem? (i := 8) rfl)) (hw _ (List.mem_of_getElem? (i := 3) rfl)) (hw _ (List.mem_of_getElem? (i := 9) rfl)) (by decide) d4_13 rfl pd2 rfl rfl rfl (by decide) (W := 1) rfl (by decide) (by decide) (by decide) (by decide) (by decide) ?_
  intro v13 h2 σ13 q13
  obtain ⟨rfl, rfl, k2, F2⟩ := q13
  show Go κ none h2 1 3 16 #[.val (.ref t), .val (.int x)] [(.ref u)]
  refine Go.aret D rfl rfl rfl d4_16 (by decide) (by decide) ?_
  exact ⟨rfl, u, rfl, by omega, E1.keepN k2 (by omega), F2⟩
abbrev y5 : MethodName := ⟨"com/example/comb/comb/search/QueryOptions", "withLeadWeight", "(F)Lcom/example/comb/comb/search/QueryOptions;"⟩
theorem d5_0 : decode prog_34_method_4_code 0 = .ok (.new 2, 3) := by decide +kernel
theorem d5_3 : decode prog_34_method_4_code 3 = .ok (.dup, 1) := by decide +kernel
theorem d5_4 : decode prog_34_method_4_code 4 = .ok (.aload_n 0, 1) := by decide +kernel
theorem d5_5 : decode prog_34_method_4_code 5 = .ok (.getfield 12, 3) := by decide +kernel
theorem d5_8 : decode prog_34_method_4_code 8 = .ok (.fload_n 1, 1) := by decide +kernel
theorem d5_9 : decode prog_34_method_4_code 9 = .ok (.ldc 23, 2) := by decide +kernel
theorem d5_11 : decode prog_34_method_4_code 11 = .ok (.invokestatic 25, 3) := by decide +kernel
theorem d5_14 : decode prog_34_method_4_code 14 = .ok (.aload_n 0, 1) := by decide +kernel
theorem d5_15 : decode prog_34_method_4_code 15 = .ok (.getfield 20, 3) := by decide +kernel
theorem d5_18 : decode prog_34_method_4_code 18 = .ok (.invokespecial 1, 3) := by decide +kernel
theorem d5_21 : decode prog_34_method_4_code 21 = .ok (.areturn, 1) := by decide +kernel
theorem pd5 : parseMethodDescriptor "(F)Lcom/example/comb/comb/search/QueryOptions;" = some ⟨[.float], (some (.object "com/example/comb/comb/search/QueryOptions"))⟩ := by decide +kernel
theorem pn5 : plainFor y5 = true := by first | exact plainFor_of_name (by first | (simp [plainName, overriddenIn]; done) | decide +kernel) | decide +kernel | rfl
set_option maxRecDepth 65536 in
set_option maxHeartbeats 40000000 in
theorem con_wlw (l : Launch) (Z : State) (a0 : Array Value) (hw : ∀ d ∈ tables_1, d.before a0 Z = true) (h0 : Heap) (n0 : Nat) (Z0 : n0 ≤ h0.size) (t : Addr) (v0 : Int32) (a b : UInt32) (Fq : QB Z h0 t v0 a b) (hv : v0 = 0 ∨ v0 = 1) (x : UInt32) (hx : Pos32 x) :
    Con l Z y5 prog_34_method_4_code 2 ((some (.object "com/example/comb/comb/search/QueryOptions"))) ({ frames := 3, cells := 3, slots := 67, locals := 45 } : Room) [] #[(.ref t), (.float x)] none h0 n0 (fun v h τ => τ = none ∧ ∃ t', v = some (.ref t') ∧ h0.size ≤ t' ∧ Ext h0 h ∧ QB Z h t' v0 x b) := by
  refine Con.of_go pn5 (ls := #[.val (.ref t), .val (.float x)]) (fun m => by first | (simp [entryFrame, mkF, argsToLocals, Value.category]; done) | rfl) ?_
  intro κ D
  refine Go.newO D (pc' := 3) (ce' := 1) (sl' := 3) (hw _ (List.mem_of_getElem? (i := 24) rfl)) (hw _ (List.mem_of_getElem? (i := 2) rfl)) (hw _ (List.mem_of_getElem? (i := 3) rfl)) d5_0 rfl rfl rfl (by decide) (by decide) ?_
  intro h1 u gu E1 X1 Y1
  have N1 : QB Z h1 u 0 0 0 := ⟨X1, Y1 (Or.inr (hw _ (List.mem_of_getElem? (i := 14) rfl))) (ty := .boolean) (by decide), Y1 (Or.inr (hw _ (List.mem_of_getElem? (i := 16) rfl))) (ty := .float) (by decide), Y1 (Or.inr (hw _ (List.mem_of_getElem? (i := 18) rfl))) (ty := .float) (by decide)⟩
  refine Go.dup D (pc' := 4) d5_3 rfl rfl ?_
  refine Go.aloadN D (pc' := 5) d5_4 rfl rfl rfl ?_
  refine Go.getF D (pc' := 8) (hw _ (List.mem_of_getElem? (i := 13) rfl)) d5_5 rfl (Fq.ext E1).2.1 ?_
  refine Go.floadN D (pc' := 9) d5_8 rfl rfl ?_
  refine Go.ldcR D (pc' := 11) (n := 60) (ce' := 3) (sl' := 67) (hw _ (List.mem_of_getElem? (i := 30) rfl)) (wS hw) d5_9 rfl (by decide) (by decide) rfl rfl (by decide) (by decide) ?_
  intro h2 c2 E2
  have e2 := E1.tr E2
  have N2 := N1.ext E2
  have lu := own_ltn X1.lt
  refine Go.callS D (argsL := [(.float x), (.ref c2)]) (rest := [(.int v0), (.ref u), (.ref u)]) (pc' := 14) (ce' := 3) (sl' := 67) (con_chkw l Z a0 hw h2 n0 none x hx c2) (hw _ (List.mem_of_getElem? (i := 38) rfl)) (hw _ (List.mem_of_getElem? (i := 39) rfl)) (hw _ (List.mem_of_getElem? (i := 3) rfl)) (hw _ (List.mem_of_getElem? (i := 40) rfl)) (by decide) d5_11 rfl pd6 rfl rfl rfl (by decide) (W := 3) rfl (by decide) (by decide) (by decide) (by decide) (by decide) ?_
  intro v11 h11 σ11 q11
  obtain ⟨rfl, rfl, rfl⟩ := q11
  show Go κ none h2 3 67 14 #[.val (.ref t), .val (.float x)] [(.float x), (.int v0), (.ref u), (.ref u)]
  refine Go.aloadN D (pc' := 15) d5_14 rfl rfl rfl ?_
  refine Go.getF D (pc' := 18) (hw _ (List.mem_of_getElem? (i := 17) rfl)) d5_15 rfl (Fq.ext e2).2.2.2 ?_
  refine Go.callI D (argsL := [(.int v0), (.float x), (.float b)]) (rest := [(.ref u)]) (pc' := 21) (ce' := 3) (sl' := 67) (con_init3 l Z a0 hw h2 n0 none u v0 x b hv (by omega) N2) rfl (hw _ (List.mem_of_getElem? (i := 7) rfl)) (hw _ (List.mem_of_getElem? (i := 8) rfl)) (hw _ (List.mem_of_getElem? (i := 3) rfl)) (hw _ (List.mem_of_getElem? (i := 9) rfl)) (by decide) d5_18 rfl pd2 rfl rfl rfl (by decide) (W := 1) rfl (by decide) (by decide) (by decide) (by decide) (by decide) ?_
  intro v18 h3 σ18 q18
  obtain ⟨rfl, rfl, k3, F3⟩ := q18
  show Go κ none h3 3 67 21 #[.val (.ref t), .val (.float x)] [(.ref u)]
  refine Go.aret D rfl rfl rfl d5_21 (by decide) (by decide) ?_
  exact ⟨rfl, u, rfl, by omega, e2.keepN k3 (by omega), F3⟩
abbrev y9 : MethodName := ⟨"com/example/comb/comb/search/QueryOptions", "withBigramWeight", "(F)Lcom/example/comb/comb/search/QueryOptions;"⟩
theorem d9_0 : decode prog_34_method_5_code 0 = .ok (.new 2, 3) := by decide +kernel
theorem d9_3 : decode prog_34_method_5_code 3 = .ok (.dup, 1) := by decide +kernel
theorem d9_4 : decode prog_34_method_5_code 4 = .ok (.aload_n 0, 1) := by decide +kernel
theorem d9_5 : decode prog_34_method_5_code 5 = .ok (.getfield 12, 3) := by decide +kernel
theorem d9_8 : decode prog_34_method_5_code 8 = .ok (.aload_n 0, 1) := by decide +kernel
theorem d9_9 : decode prog_34_method_5_code 9 = .ok (.getfield 16, 3) := by decide +kernel
theorem d9_12 : decode prog_34_method_5_code 12 = .ok (.fload_n 1, 1) := by decide +kernel
theorem d9_13 : decode prog_34_method_5_code 13 = .ok (.ldc 29, 2) := by decide +kernel
theorem d9_15 : decode prog_34_method_5_code 15 = .ok (.invokestatic 25, 3) := by decide +kernel
theorem d9_18 : decode prog_34_method_5_code 18 = .ok (.invokespecial 1, 3) := by decide +kernel
theorem d9_21 : decode prog_34_method_5_code 21 = .ok (.areturn, 1) := by decide +kernel
theorem pd9 : parseMethodDescriptor "(F)Lcom/example/comb/comb/search/QueryOptions;" = some ⟨[.float], (some (.object "com/example/comb/comb/search/QueryOptions"))⟩ := by decide +kernel
theorem pn9 : plainFor y9 = true := by first | exact plainFor_of_name (by first | (simp [plainName, overriddenIn]; done) | decide +kernel) | decide +kernel | rfl
set_option maxRecDepth 65536 in
set_option maxHeartbeats 40000000 in
theorem con_wbw (l : Launch) (Z : State) (a0 : Array Value) (hw : ∀ d ∈ tables_1, d.before a0 Z = true) (h0 : Heap) (n0 : Nat) (Z0 : n0 ≤ h0.size) (t : Addr) (v0 : Int32) (a b : UInt32) (Fq : QB Z h0 t v0 a b) (hv : v0 = 0 ∨ v0 = 1) (x : UInt32) (hx : Pos32 x) :
    Con l Z y9 prog_34_method_5_code 2 ((some (.object "com/example/comb/comb/search/QueryOptions"))) ({ frames := 3, cells := 3, slots := 75, locals := 45 } : Room) [] #[(.ref t), (.float x)] none h0 n0 (fun v h τ => τ = none ∧ ∃ t', v = some (.ref t') ∧ h0.size ≤ t' ∧ Ext h0 h ∧ QB Z h t' v0 a x) := by
  refine Con.of_go pn9 (ls := #[.val (.ref t), .val (.float x)]) (fun m => by first | (simp [entryFrame, mkF, argsToLocals, Value.category]; done) | rfl) ?_
  intro κ D
  refine Go.newO D (pc' := 3) (ce' := 1) (sl' := 3) (hw _ (List.mem_of_getElem? (i := 24) rfl)) (hw _ (List.mem_of_getElem? (i := 2) rfl)) (hw _ (List.mem_of_getElem? (i := 3) rfl)) d9_0 rfl rfl rfl (by decide) (by decide) ?_
  intro h1 u gu E1 X1 Y1
  have N1 : QB Z h1 u 0 0 0 := ⟨X1, Y1 (Or.inr (hw _ (List.mem_of_getElem? (i := 14) rfl))) (ty := .boolean) (by decide), Y1 (Or.inr (hw _ (List.mem_of_getElem? (i := 16) rfl))) (ty := .float) (by decide), Y1 (Or.inr (hw _ (List.mem_of_getElem? (i := 18) rfl))) (ty := .float) (by decide)⟩
  refine Go.dup D (pc' := 4) d9_3 rfl rfl ?_
  refine Go.aloadN D (pc' := 5) d9_4 rfl rfl rfl ?_
  refine Go.getF D (pc' := 8) (hw _ (List.mem_of_getElem? (i := 13) rfl)) d9_5 rfl (Fq.ext E1).2.1 ?_
  refine Go.aloadN D (pc' := 9) d9_8 rfl rfl rfl ?_
  refine Go.getF D (pc' := 12) (hw _ (List.mem_of_getElem? (i := 15) rfl)) d9_9 rfl (Fq.ext E1).2.2.1 ?_
  refine Go.floadN D (pc' := 13) d9_12 rfl rfl ?_
  refine Go.ldcR D (pc' := 15) (n := 68) (ce' := 3) (sl' := 75) (hw _ (List.mem_of_getElem? (i := 55) rfl)) (wS hw) d9_13 rfl (by decide) (by decide) rfl rfl (by decide) (by decide) ?_
  intro h2 c2 E2
  have e2 := E1.tr E2
  have N2 := N1.ext E2
  have lu := own_ltn X1.lt
  refine Go.callS D (argsL := [(.float x), (.ref c2)]) (rest := [(.float a), (.int v0), (.ref u), (.ref u)]) (pc' := 18) (ce' := 3) (sl' := 75) (con_chkw l Z a0 hw h2 n0 none x hx c2) (hw _ (List.mem_of_getElem? (i := 38) rfl)) (hw _ (List.mem_of_getElem? (i := 39) rfl)) (hw _ (List.mem_of_getElem? (i := 3) rfl)) (hw _ (List.mem_of_getElem? (i := 40) rfl)) (by decide) d9_15 rfl pd6 rfl rfl rfl (by decide) (W := 4) rfl (by decide) (by decide) (by decide) (by decide) (by decide) ?_
  intro v15 h15 σ15 q15
  obtain ⟨rfl, rfl, rfl⟩ := q15
  show Go κ none h2 3 75 18 #[.val (.ref t), .val (.float x)] [(.float x), (.float a), (.int v0), (.ref u), (.ref u)]
  refine Go.callI D (argsL := [(.int v0), (.float a), (.float x)]) (rest := [(.ref u)]) (pc' := 21) (ce' := 3) (sl' := 75) (con_init3 l Z a0 hw h2 n0 none u v0 a x hv (by omega) N2) rfl (hw _ (List.mem_of_getElem? (i := 7) rfl)) (hw _ (List.mem_of_getElem? (i := 8) rfl)) (hw _ (List.mem_of_getElem? (i := 3) rfl)) (hw _ (List.mem_of_getElem? (i := 9) rfl)) (by decide) d9_18 rfl pd2 rfl rfl rfl (by decide) (W := 1) rfl (by decide) (by decide) (by decide) (by decide) (by decide) ?_
  intro v18 h3 σ18 q18
  obtain ⟨rfl, rfl, k3, F3⟩ := q18
  show Go κ none h3 3 75 21 #[.val (.ref t), .val (.float x)] [(.ref u)]
  refine Go.aret D rfl rfl rfl d9_21 (by decide) (by decide) ?_
  exact ⟨rfl, u, rfl, by omega, e2.keepN k3 (by omega), F3⟩
abbrev y10 : MethodName := ⟨"com/example/comb/comb/search/QueryOptions", "hasCompoundWeights", "()Z"⟩
theorem d10_0 : decode prog_34_method_6_code 0 = .ok (.aload_n 0, 1) := by decide +kernel
theorem d10_1 : decode prog_34_method_6_code 1 = .ok (.getfield 12, 3) := by decide +kernel
theorem d10_4 : decode prog_34_method_6_code 4 = .ok (.ireturn, 1) := by decide +kernel
theorem pd10 : parseMethodDescriptor "()Z" = some ⟨[], (some .boolean)⟩ := by decide +kernel
theorem pn10 : plainFor y10 = true := by first | exact plainFor_of_name (by first | (simp [plainName, overriddenIn]; done) | decide +kernel) | decide +kernel | rfl
set_option maxRecDepth 65536 in
set_option maxHeartbeats 40000000 in
theorem con_has (l : Launch) (Z : State) (a0 : Array Value) (hw : ∀ d ∈ tables_1, d.before a0 Z = true) (h0 : Heap) (n0 : Nat) (σ : Sg) (t : Addr) (v0 : Int32) (a b : UInt32) (Fq : QB Z h0 t v0 a b) (hv : v0 = 0 ∨ v0 = 1) :
    Con l Z y10 prog_34_method_6_code 1 ((some .boolean)) ({ frames := 0, cells := 0, slots := 0, locals := 0 } : Room) [] #[(.ref t)] σ h0 n0 (fun v h τ => h0 = h ∧ σ = τ ∧ v = some (.int v0)) := by
  refine Con.of_go pn10 (ls := #[.val (.ref t)]) (fun m => by first | (simp [entryFrame, mkF, argsToLocals, Value.category]; done) | rfl) ?_
  intro κ D
  refine Go.aloadN D (pc' := 1) d10_0 rfl rfl rfl ?_
  refine Go.getF D (pc' := 4) (hw _ (List.mem_of_getElem? (i := 13) rfl)) d10_1 rfl Fq.2.1 ?_
  refine Go.zret D rfl (by rcases hv with rfl | rfl <;> rfl) d10_4 (by decide) (by decide) ?_
  exact ⟨rfl, rfl, rfl⟩
abbrev y11 : MethodName := ⟨"com/example/comb/comb/search/QueryOptions", "getLeadWeight", "()F"⟩
theorem d11_0 : decode prog_34_method_7_code 0 = .ok (.aload_n 0, 1) := by decide +kernel
theorem d11_1 : decode prog_34_method_7_code 1 = .ok (.getfield 16, 3) := by decide +kernel
theorem d11_4 : decode prog_34_method_7_code 4 = .ok (.freturn, 1) := by decide +kernel
theorem pd11 : parseMethodDescriptor "()F" = some ⟨[], (some .float)⟩ := by decide +kernel
theorem pn11 : plainFor y11 = true := by first | exact plainFor_of_name (by first | (simp [plainName, overriddenIn]; done) | decide +kernel) | decide +kernel | rfl
set_option maxRecDepth 65536 in
set_option maxHeartbeats 40000000 in
theorem con_gl (l : Launch) (Z : State) (a0 : Array Value) (hw : ∀ d ∈ tables_1, d.before a0 Z = true) (h0 : Heap) (n0 : Nat) (σ : Sg) (t : Addr) (v0 : Int32) (a b : UInt32) (Fq : QB Z h0 t v0 a b) :
    Con l Z y11 prog_34_method_7_code 1 ((some .float)) ({ frames := 0, cells := 0, slots := 0, locals := 0 } : Room) [] #[(.ref t)] σ h0 n0 (fun v h τ => h0 = h ∧ σ = τ ∧ v = some (.float a)) := by
  refine Con.of_go pn11 (ls := #[.val (.ref t)]) (fun m => by first | (simp [entryFrame, mkF, argsToLocals, Value.category]; done) | rfl) ?_
  intro κ D
  refine Go.aloadN D (pc' := 1) d11_0 rfl rfl rfl ?_
  refine Go.getF D (pc' := 4) (hw _ (List.mem_of_getElem? (i := 15) rfl)) d11_1 rfl Fq.2.2.1 ?_
  refine Go.fret D rfl d11_4 (by decide) (by decide) ?_
  exact ⟨rfl, rfl, rfl⟩
abbrev y12 : MethodName := ⟨"com/example/comb/comb/search/QueryOptions", "getBigramWeight", "()F"⟩
theorem d12_0 : decode prog_34_method_8_code 0 = .ok (.aload_n 0, 1) := by decide +kernel
theorem d12_1 : decode prog_34_method_8_code 1 = .ok (.getfield 20, 3) := by decide +kernel
theorem d12_4 : decode prog_34_method_8_code 4 = .ok (.freturn, 1) := by decide +kernel
theorem pd12 : parseMethodDescriptor "()F" = some ⟨[], (some .float)⟩ := by decide +kernel
theorem pn12 : plainFor y12 = true := by first | exact plainFor_of_name (by first | (simp [plainName, overriddenIn]; done) | decide +kernel) | decide +kernel | rfl
set_option maxRecDepth 65536 in
set_option maxHeartbeats 40000000 in
theorem con_gb (l : Launch) (Z : State) (a0 : Array Value) (hw : ∀ d ∈ tables_1, d.before a0 Z = true) (h0 : Heap) (n0 : Nat) (σ : Sg) (t : Addr) (v0 : Int32) (a b : UInt32) (Fq : QB Z h0 t v0 a b) :
    Con l Z y12 prog_34_method_8_code 1 ((some .float)) ({ frames := 0, cells := 0, slots := 0, locals := 0 } : Room) [] #[(.ref t)] σ h0 n0 (fun v h τ => h0 = h ∧ σ = τ ∧ v = some (.float b)) := by
  refine Con.of_go pn12 (ls := #[.val (.ref t)]) (fun m => by first | (simp [entryFrame, mkF, argsToLocals, Value.category]; done) | rfl) ?_
  intro κ D
  refine Go.aloadN D (pc' := 1) d12_0 rfl rfl rfl ?_
  refine Go.getF D (pc' := 4) (hw _ (List.mem_of_getElem? (i := 17) rfl)) d12_1 rfl Fq.2.2.2 ?_
  refine Go.fret D rfl d12_4 (by decide) (by decide) ?_
  exact ⟨rfl, rfl, rfl⟩
theorem pd0 : parseMethodDescriptor "(III)Z" = some ⟨[.int, .int, .int], (some .boolean)⟩ := by decide +kernel
theorem pn0 : plainFor x = true := by first | exact plainFor_of_name (by first | (simp [plainName, overriddenIn]; done) | decide +kernel) | decide +kernel | rfl
set_option maxRecDepth 65536 in
set_option maxHeartbeats 40000000 in
theorem con_law (l : Launch) (Z : State) (a0 : Array Value) (hw : ∀ d ∈ tables_1, d.before a0 Z = true) (h0 : Heap) (n0 : Nat) (Z0 : n0 ≤ h0.size) (i0 i1 i2 : Int32) :
    Con l Z x code maxLocals ret room_1 tables_1 #[(.int i0), (.int i1), (.int i2)] none h0 n0 (fun v h τ => v = some (.int 1)) := by
  refine Con.of_go pn0 (ls := #[.val (.int i0), .val (.int i1), .val (.int i2), .unset, .unset, .unset, .unset, .unset, .unset]) (fun m => by first | (simp [entryFrame, mkF, argsToLocals, Value.category, maxLocals]; done) | rfl) ?_
  intro κ D
  refine Go.iloadN D (pc' := 1) at_0 rfl rfl ?_
  refine Go.iconst D (pc' := 2) at_1 rfl (v := (1 : Int32)) rfl ?_
  refine Go.iand D (pc' := 3) at_2 rfl  ?_
  have J11 : ∀ b1 : Int32, (b1 = 0 ∨ b1 = 1) → Go κ none h0 0 0 11 #[.val (.int i0), .val (.int i1), .val (.int i2), .unset, .unset, .unset, .unset, .unset, .unset] [(.int b1)] := by
    intro b1 hb1
    refine Go.istoreN D (pc' := 12) at_11 rfl (ls' := #[.val (.int i0), .val (.int i1), .val (.int i2), .val (.int b1), .unset, .unset, .unset, .unset, .unset]) rfl ?_
    refine Go.iloadN D (pc' := 13) at_12 rfl rfl ?_
    refine Go.iconst D (pc' := 14) at_13 rfl (v := (2 : Int32)) rfl ?_
    refine Go.iand D (pc' := 15) at_14 rfl  ?_
    have J23 : ∀ b2 : Int32, (b2 = 0 ∨ b2 = 1) → Go κ none h0 0 0 23 #[.val (.int i0), .val (.int i1), .val (.int i2), .val (.int b1), .unset, .unset, .unset, .unset, .unset] [(.int b2)] := by
      intro b2 hb2
      refine Go.istore D (pc' := 25) at_23 rfl (ls' := #[.val (.int i0), .val (.int i1), .val (.int i2), .val (.int b1), .val (.int b2), .unset, .unset, .unset, .unset]) rfl ?_
      refine Go.iloadN D (pc' := 26) at_25 rfl rfl ?_
      refine Go.ldcInt D (pc' := 28) (hw _ (List.mem_of_getElem? (i := 0) rfl)) at_26 rfl ?_
      refine Go.iand D (pc' := 29) at_28 rfl  ?_
      refine Go.i2f D (pc' := 30) at_29 rfl  ?_
      obtain ⟨lw, elw⟩ : ∃ x, x = (FP.i2f (i1 &&& (2147483647 : Int32))) := ⟨_, rfl⟩
      rw [← elw]
      have hlw : Pos32 lw := by rw [elw]; exact pos_i2f (c_and i1 2147483647 (by decide)).1
      refine Go.fstore D (pc' := 32) at_30 rfl (ls' := #[.val (.int i0), .val (.int i1), .val (.int i2), .val (.int b1), .val (.int b2), .val (.float lw), .unset, .unset, .unset]) rfl ?_
      refine Go.iloadN D (pc' := 33) at_32 rfl rfl ?_
      refine Go.ldcInt D (pc' := 35) (hw _ (List.mem_of_getElem? (i := 0) rfl)) at_33 rfl ?_
      refine Go.iand D (pc' := 36) at_35 rfl  ?_
      refine Go.i2f D (pc' := 37) at_36 rfl  ?_
      obtain ⟨bw, ebw⟩ : ∃ x, x = (FP.i2f (i2 &&& (2147483647 : Int32))) := ⟨_, rfl⟩
      rw [← ebw]
      have hbw : Pos32 bw := by rw [ebw]; exact pos_i2f (c_and i2 2147483647 (by decide)).1
      refine Go.fstore D (pc' := 39) at_37 rfl (ls' := #[.val (.int i0), .val (.int i1), .val (.int i2), .val (.int b1), .val (.int b2), .val (.float lw), .val (.float bw), .unset, .unset]) rfl ?_
      refine Go.newO D (pc' := 42) (ce' := 1) (sl' := 3) (hw _ (List.mem_of_getElem? (i := 1) rfl)) (hw _ (List.mem_of_getElem? (i := 2) rfl)) (hw _ (List.mem_of_getElem? (i := 3) rfl)) at_39 rfl rfl rfl (by decide) (by decide) ?_
      intro h1 t0 gt0 E1 X1 Y1
      have N1 : QB Z h1 t0 0 0 0 := ⟨X1, Y1 (Or.inr (hw _ (List.mem_of_getElem? (i := 14) rfl))) (ty := .boolean) (by decide), Y1 (Or.inr (hw _ (List.mem_of_getElem? (i := 16) rfl))) (ty := .float) (by decide), Y1 (Or.inr (hw _ (List.mem_of_getElem? (i := 18) rfl))) (ty := .float) (by decide)⟩
      have z1 : n0 ≤ h1.size := Nat.le_trans Z0 E1.1
      refine Go.dup D (pc' := 43) at_42 rfl rfl ?_
      refine Go.callI D (argsL := []) (rest := [(.ref t0)]) (pc' := 46) (ce' := 1) (sl' := 3) (con_init0 l Z a0 hw h1 n0 none t0 (by omega) N1) rfl (hw _ (List.mem_of_getElem? (i := 4) rfl)) (hw _ (List.mem_of_getElem? (i := 5) rfl)) (hw _ (List.mem_of_getElem? (i := 3) rfl)) (hw _ (List.mem_of_getElem? (i := 6) rfl)) (by decide) at_43 rfl pd1 rfl rfl rfl (by decide) (W := 1) rfl (by decide) (by decide) (by decide) (by decide) (by decide) ?_
      intro v43 h2 σ43 q43
      obtain ⟨rfl, rfl, k2, F2⟩ := q43
      have z2 := Nat.le_trans z1 k2.1
      show Go κ none h2 1 3 46 #[.val (.int i0), .val (.int i1), .val (.int i2), .val (.int b1), .val (.int b2), .val (.float lw), .val (.float bw), .unset, .unset] [(.ref t0)]
      refine Go.iloadN D (pc' := 47) at_46 rfl rfl ?_
      refine Go.callV D (argsL := [(.int b1)]) (rest := []) (pc' := 50) (ce' := 2) (sl' := 6) (con_wcw l Z a0 hw h2 n0 z2 t0 _ _ _ F2 b1 hb1) (hw _ (List.mem_of_getElem? (i := 19) rfl)) (hw _ (List.mem_of_getElem? (i := 20) rfl)) (hw _ (List.mem_of_getElem? (i := 22) rfl)) (hw _ (List.mem_of_getElem? (i := 21) rfl)) (hw _ (List.mem_of_getElem? (i := 3) rfl)) (hw _ (List.mem_of_getElem? (i := 23) rfl)) (nfS (hw _ (List.mem_of_getElem? (i := 22) rfl))) (by decide) F2.1 at_47 rfl pd4 rfl rfl rfl (by decide) (W := 0) rfl (by decide) (by decide) (by decide) (by decide) (by decide) ?_
      intro v47 h3 σ47 q47
      obtain ⟨rfl, t3, rfl, g3, x3, F3⟩ := q47
      have z3 := Nat.le_trans z2 x3.1
      show Go κ none h3 2 6 50 #[.val (.int i0), .val (.int i1), .val (.int i2), .val (.int b1), .val (.int b2), .val (.float lw), .val (.float bw), .unset, .unset] [(.ref t3)]
      refine Go.fload D (pc' := 52) at_50 rfl rfl ?_
      refine Go.callV D (argsL := [(.float lw)]) (rest := []) (pc' := 55) (ce' := 5) (sl' := 73) (con_wlw l Z a0 hw h3 n0 z3 t3 _ _ _ F3 hb1 lw hlw) (hw _ (List.mem_of_getElem? (i := 25) rfl)) (hw _ (List.mem_of_getElem? (i := 26) rfl)) (hw _ (List.mem_of_getElem? (i := 28) rfl)) (hw _ (List.mem_of_getElem? (i := 27) rfl)) (hw _ (List.mem_of_getElem? (i := 3) rfl)) (hw _ (List.mem_of_getElem? (i := 29) rfl)) (nfS (hw _ (List.mem_of_getElem? (i := 28) rfl))) (by decide) F3.1 at_52 rfl pd5 rfl rfl rfl (by decide) (W := 0) rfl (by decide) (by decide) (by decide) (by decide) (by decide) ?_
      intro v52 h4 σ52 q52
      obtain ⟨rfl, t4, rfl, g4, x4, F4⟩ := q52
      have z4 := Nat.le_trans z3 x4.1
      show Go κ none h4 5 73 55 #[.val (.int i0), .val (.int i1), .val (.int i2), .val (.int b1), .val (.int b2), .val (.float lw), .val (.float bw), .unset, .unset] [(.ref t4)]
      refine Go.fload D (pc' := 57) at_55 rfl rfl ?_
      refine Go.callV D (argsL := [(.float bw)]) (rest := []) (pc' := 60) (ce' := 8) (sl' := 148) (con_wbw l Z a0 hw h4 n0 z4 t4 _ _ _ F4 hb1 bw hbw) (hw _ (List.mem_of_getElem? (i := 50) rfl)) (hw _ (List.mem_of_getElem? (i := 51) rfl)) (hw _ (List.mem_of_getElem? (i := 53) rfl)) (hw _ (List.mem_of_getElem? (i := 52) rfl)) (hw _ (List.mem_of_getElem? (i := 3) rfl)) (hw _ (List.mem_of_getElem? (i := 54) rfl)) (nfS (hw _ (List.mem_of_getElem? (i := 53) rfl))) (by decide) F4.1 at_57 rfl pd9 rfl rfl rfl (by decide) (W := 0) rfl (by decide) (by decide) (by decide) (by decide) (by decide) ?_
      intro v57 h5 σ57 q57
      obtain ⟨rfl, t5, rfl, g5, x5, F5⟩ := q57
      have z5 := Nat.le_trans z4 x5.1
      show Go κ none h5 8 148 60 #[.val (.int i0), .val (.int i1), .val (.int i2), .val (.int b1), .val (.int b2), .val (.float lw), .val (.float bw), .unset, .unset] [(.ref t5)]
      refine Go.astore D (pc' := 62) at_60 rfl rfl (ls' := #[.val (.int i0), .val (.int i1), .val (.int i2), .val (.int b1), .val (.int b2), .val (.float lw), .val (.float bw), .val (.ref t5), .unset]) rfl ?_
      refine Go.aload D (pc' := 64) at_62 rfl rfl rfl ?_
      refine Go.iload D (pc' := 66) at_64 rfl rfl ?_
      refine Go.callV D (argsL := [(.int b2)]) (rest := []) (pc' := 69) (ce' := 9) (sl' := 151) (con_wcw l Z a0 hw h5 n0 z5 t5 _ _ _ F5 b2 hb2) (hw _ (List.mem_of_getElem? (i := 19) rfl)) (hw _ (List.mem_of_getElem? (i := 20) rfl)) (hw _ (List.mem_of_getElem? (i := 22) rfl)) (hw _ (List.mem_of_getElem? (i := 21) rfl)) (hw _ (List.mem_of_getElem? (i := 3) rfl)) (hw _ (List.mem_of_getElem? (i := 23) rfl)) (nfS (hw _ (List.mem_of_getElem? (i := 22) rfl))) (by decide) F5.1 at_66 rfl pd4 rfl rfl rfl (by decide) (W := 0) rfl (by decide) (by decide) (by decide) (by decide) (by decide) ?_
      intro v66 h6 σ66 q66
      obtain ⟨rfl, t6, rfl, g6, x6, F6⟩ := q66
      have z6 := Nat.le_trans z5 x6.1
      show Go κ none h6 9 151 69 #[.val (.int i0), .val (.int i1), .val (.int i2), .val (.int b1), .val (.int b2), .val (.float lw), .val (.float bw), .val (.ref t5), .unset] [(.ref t6)]
      refine Go.astore D (pc' := 71) at_69 rfl rfl (ls' := #[.val (.int i0), .val (.int i1), .val (.int i2), .val (.int b1), .val (.int b2), .val (.float lw), .val (.float bw), .val (.ref t5), .val (.ref t6)]) rfl ?_
      refine Go.aload D (pc' := 73) at_71 rfl rfl rfl ?_
      refine Go.aload D (pc' := 75) at_73 rfl rfl rfl ?_
      have F7 := F5.ext x6
      have nt : t6 ≠ t5 := own_ne (by have := own_ltn F5.1.lt; omega)
      refine Go.acmpEq D (pc' := 123) (pc2 := 78) rfl rfl at_75 (by decide) (by decide) rfl ?_ ?_
      · intro (hc75 : (.ref t6 : Value) = .ref t5)
        exact absurd (by injection hc75) nt
      · intro (hc75 : ¬ (.ref t6 : Value) = .ref t5)
        refine Go.aload D (pc' := 80) at_78 rfl rfl rfl ?_
        refine Go.callV D (argsL := []) (rest := []) (pc' := 83) (ce' := 9) (sl' := 151) (con_has l Z a0 hw h6 n0 none t6 _ _ _ F6 hb2) (hw _ (List.mem_of_getElem? (i := 56) rfl)) (hw _ (List.mem_of_getElem? (i := 57) rfl)) (hw _ (List.mem_of_getElem? (i := 59) rfl)) (hw _ (List.mem_of_getElem? (i := 58) rfl)) (hw _ (List.mem_of_getElem? (i := 3) rfl)) (hw _ (List.mem_of_getElem? (i := 60) rfl)) (nfS (hw _ (List.mem_of_getElem? (i := 59) rfl))) (by decide) F6.1 at_80 rfl pd10 rfl rfl rfl (by decide) (W := 0) rfl (by decide) (by decide) (by decide) (by decide) (by decide) ?_
        intro v80 h80 σ80 q80
        obtain ⟨rfl, rfl, rfl⟩ := q80
        show Go κ none h6 9 151 83 #[.val (.int i0), .val (.int i1), .val (.int i2), .val (.int b1), .val (.int b2), .val (.float lw), .val (.float bw), .val (.ref t5), .val (.ref t6)] [(.int b2)]
        refine Go.iload D (pc' := 85) at_83 rfl rfl ?_
        refine Go.icmp D (pc' := 123) (pc2 := 88) at_85 (by decide) (by decide) rfl ?_ ?_
        · intro (hc85 : ¬ b2 = b2)
          exact absurd rfl hc85
        · intro (hc85 : b2 = b2)
          refine Go.aload D (pc' := 90) at_88 rfl rfl rfl ?_
          refine Go.callV D (argsL := []) (rest := []) (pc' := 93) (ce' := 9) (sl' := 151) (con_gl l Z a0 hw h6 n0 none t6 _ _ _ F6) (hw _ (List.mem_of_getElem? (i := 61) rfl)) (hw _ (List.mem_of_getElem? (i := 62) rfl)) (hw _ (List.mem_of_getElem? (i := 64) rfl)) (hw _ (List.mem_of_getElem? (i := 63) rfl)) (hw _ (List.mem_of_getElem? (i := 3) rfl)) (hw _ (List.mem_of_getElem? (i := 65) rfl)) (nfS (hw _ (List.mem_of_getElem? (i := 64) rfl))) (by decide) F6.1 at_90 rfl pd11 rfl rfl rfl (by decide) (W := 0) rfl (by decide) (by decide) (by decide) (by decide) (by decide) ?_
          intro v90 h90 σ90 q90
          obtain ⟨rfl, rfl, rfl⟩ := q90
          show Go κ none h6 9 151 93 #[.val (.int i0), .val (.int i1), .val (.int i2), .val (.int b1), .val (.int b2), .val (.float lw), .val (.float bw), .val (.ref t5), .val (.ref t6)] [(.float lw)]
          refine Go.fload D (pc' := 95) at_93 rfl rfl ?_
          refine Go.fcmp D (pc' := 96) at_95 rfl  ?_
          refine Go.ifc D (pc' := 123) (pc2 := 99) at_96 (by decide) (by decide) rfl ?_ ?_
          · intro (hc96 : ¬ (cmpValue (FP.fcmp lw lw) .l) = 0)
            exact absurd (fcmpV_self hlw.fin.noNaN _) hc96
          · intro (hc96 : (cmpValue (FP.fcmp lw lw) .l) = 0)
            refine Go.aload D (pc' := 101) at_99 rfl rfl rfl ?_
            refine Go.callV D (argsL := []) (rest := []) (pc' := 104) (ce' := 9) (sl' := 151) (con_gb l Z a0 hw h6 n0 none t6 _ _ _ F6) (hw _ (List.mem_of_getElem? (i := 66) rfl)) (hw _ (List.mem_of_getElem? (i := 67) rfl)) (hw _ (List.mem_of_getElem? (i := 69) rfl)) (hw _ (List.mem_of_getElem? (i := 68) rfl)) (hw _ (List.mem_of_getElem? (i := 3) rfl)) (hw _ (List.mem_of_getElem? (i := 70) rfl)) (nfS (hw _ (List.mem_of_getElem? (i := 69) rfl))) (by decide) F6.1 at_101 rfl pd12 rfl rfl rfl (by decide) (W := 0) rfl (by decide) (by decide) (by decide) (by decide) (by decide) ?_
            intro v101 h101 σ101 q101
            obtain ⟨rfl, rfl, rfl⟩ := q101
            show Go κ none h6 9 151 104 #[.val (.int i0), .val (.int i1), .val (.int i2), .val (.int b1), .val (.int b2), .val (.float lw), .val (.float bw), .val (.ref t5), .val (.ref t6)] [(.float bw)]
            refine Go.fload D (pc' := 106) at_104 rfl rfl ?_
            refine Go.fcmp D (pc' := 107) at_106 rfl  ?_
            refine Go.ifc D (pc' := 123) (pc2 := 110) at_107 (by decide) (by decide) rfl ?_ ?_
            · intro (hc107 : ¬ (cmpValue (FP.fcmp bw bw) .l) = 0)
              exact absurd (fcmpV_self hbw.fin.noNaN _) hc107
            · intro (hc107 : (cmpValue (FP.fcmp bw bw) .l) = 0)
              refine Go.aload D (pc' := 112) at_110 rfl rfl rfl ?_
              refine Go.callV D (argsL := []) (rest := []) (pc' := 115) (ce' := 9) (sl' := 151) (con_has l Z a0 hw h6 n0 none t5 _ _ _ F7 hb1) (hw _ (List.mem_of_getElem? (i := 56) rfl)) (hw _ (List.mem_of_getElem? (i := 57) rfl)) (hw _ (List.mem_of_getElem? (i := 59) rfl)) (hw _ (List.mem_of_getElem? (i := 58) rfl)) (hw _ (List.mem_of_getElem? (i := 3) rfl)) (hw _ (List.mem_of_getElem? (i := 60) rfl)) (nfS (hw _ (List.mem_of_getElem? (i := 59) rfl))) (by decide) F7.1 at_112 rfl pd10 rfl rfl rfl (by decide) (W := 0) rfl (by decide) (by decide) (by decide) (by decide) (by decide) ?_
              intro v112 h112 σ112 q112
              obtain ⟨rfl, rfl, rfl⟩ := q112
              show Go κ none h6 9 151 115 #[.val (.int i0), .val (.int i1), .val (.int i2), .val (.int b1), .val (.int b2), .val (.float lw), .val (.float bw), .val (.ref t5), .val (.ref t6)] [(.int b1)]
              refine Go.iloadN D (pc' := 116) at_115 rfl rfl ?_
              refine Go.icmp D (pc' := 123) (pc2 := 119) at_116 (by decide) (by decide) rfl ?_ ?_
              · intro (hc116 : ¬ b1 = b1)
                exact absurd rfl hc116
              · intro (hc116 : b1 = b1)
                refine Go.iconst D (pc' := 120) at_119 rfl (v := (1 : Int32)) rfl ?_
                refine Go.goto D (pc' := 124) at_120 (by decide) (by decide) ?_
                refine Go.zret D rfl rfl at_124 (by decide) (by decide) ?_
                exact rfl
    refine Go.ifc D (pc' := 22) (pc2 := 18) at_15 (by decide) (by decide) rfl ?_ ?_
    · intro (hc15 : (i0 &&& (2 : Int32)) = 0)
      refine Go.iconst D (pc' := 23) at_22 rfl (v := (0 : Int32)) rfl ?_
      exact J23 (0 : Int32) (Or.inl rfl)
    · intro (hc15 : ¬ (i0 &&& (2 : Int32)) = 0)
      refine Go.iconst D (pc' := 19) at_18 rfl (v := (1 : Int32)) rfl ?_
      refine Go.goto D (pc' := 23) at_19 (by decide) (by decide) ?_
      exact J23 (1 : Int32) (Or.inr rfl)
  refine Go.ifc D (pc' := 10) (pc2 := 6) at_3 (by decide) (by decide) rfl ?_ ?_
  · intro (hc3 : (i0 &&& (1 : Int32)) = 0)
    refine Go.iconst D (pc' := 11) at_10 rfl (v := (0 : Int32)) rfl ?_
    exact J11 (0 : Int32) (Or.inl rfl)
  · intro (hc3 : ¬ (i0 &&& (1 : Int32)) = 0)
    refine Go.iconst D (pc' := 7) at_6 rfl (v := (1 : Int32)) rfl ?_
    refine Go.goto D (pc' := 11) at_7 (by decide) (by decide) ?_
    exact J11 (1 : Int32) (Or.inr rfl)
set_option maxRecDepth 65536 in
set_option maxHeartbeats 40000000 in
theorem comes_1 {Post : Tables → Env → Array Value → State → Outcome → State → Prop} (hpost : ∀ tb e args s v u, (limb_1_1.after args s (.returned v) u = true ∧ limb_1_2.after args s (.returned v) u = true ∧ True) → Jvm.D.FramedW s (.returned v) u (Jvm.fieldLocs frame_1_writes args s ++ Jvm.arrayLocs frame_1_arrays args s ++ Jvm.staticLocs frame_1_statics s) 24 2176 → Post tb e args s (.returned v) u) :
    ArmFor flags0 classFile x code maxLocals ret World_1 tables_1 room_1 Calls_1 rest_1 Pre_1 Post := by
  intro l hfl _ _ p e ha hc hk s m args below hf hA hF happ hP
  obtain ⟨hcalls, hrest, hpre⟩ := hP
  obtain ⟨-, -, -, hnamed, -, -, -, hat⟩ := (Spec.applies_iff hf).mp happ
  obtain ⟨hg, hn⟩ := and_e (Cond.before_iff.mp (show (Jvm.Cond.and given_1 narrow_1).before args s = true from hpre))
  obtain ⟨h1, k0⟩ := and_e hg
  obtain ⟨j0, k1⟩ := and_e k0
  obtain ⟨j1, k2⟩ := and_e k1
  obtain ⟨w0, w1, w2, rfl⟩ : ∃ w0 w1 w2 : Value, args = #[w0, w1, w2] := by
    have hs : args.size = 3 := by simpa [Cond.value, given_1] using h1
    obtain ⟨L⟩ := args
    match L, hs with
    | [w0, w1, w2], _ => exact ⟨w0, w1, w2, rfl⟩
  have hw := fun d (hd : d ∈ tables_1) => atoms_spec (ws := Jvm.Cond.code x code maxLocals ret :: tables_1) hat d (List.mem_cons_of_mem _ hd)
  obtain ⟨i0, e0⟩ := is_v j0
  obtain rfl : w0 = (.int i0) := Option.some.inj e0
  obtain ⟨i1, e1⟩ := is_v j1
  obtain rfl : w1 = (.int i1) := Option.some.inj e1
  obtain ⟨i2, e2⟩ := is_v k2
  obtain rfl : w2 = (.int i2) := Option.some.inj e2

  obtain ⟨n, o, g1, g2, g3, _, L, τ, rfl, ⟨N, -, -, rfl⟩, hq⟩ := con_law l s _ hw s.heap s.heap.size (Nat.le_refl _) i0 i1 i2 p e ha hc hk s m _ below hf ((Spec.applies_iff_loose hf).mp happ).1 ⟨rfl, State.Warmed39.refl s, rfl, trivial, Old.start s⟩ trivial
  refine ⟨n, _, g1, g2, g3, hpost _ _ _ _ _ _ ⟨Cond.after_iff.mpr rfl, Cond.after_iff.mpr (eq_i res_at (Term.int_eval (1)) rfl), trivial⟩ ⟨hq.1, hq.2.1, hq.2.2.1, (hq.2.2.2.sift fun y hy => Or.inr (N y hy)).mono (by decide) (by decide)⟩⟩
theorem main_1_1 : Claimed_1_1 := comes_1 fun _ _ _ _ _ _ h hF => ⟨h.1, hF⟩
theorem main_1_2 : Claimed_1_2 := comes_1 fun _ _ _ _ _ _ h hF => ⟨h.2.1, hF⟩

end Jvm.Pilot.@@N@@
namespace Jvm.Pilot.@@N@@
open Jvm Jvm.ClassFile Sem Op Lib Jvm.Free Jvm.Stand Jvm.Pilot.@@N@@.Jvm.D
/-! MADE BY PROGRAM (witnessworld.py) out of the Statement's table words and the real class files: 17 classes; the members and pool entries that the words name. The judged class is class 1, her method 1. -/
namespace start1
open Jvm.ClassFile
def u (s : String) : CpInfo := .utf8 (stringToUtf16 s)
/-- a pool by its gaps: so many unusable entries, then the entry; so many at the end -/
def gap : Nat → List CpInfo → List CpInfo
  | 0, r => r
  | n + 1, r => .unusable :: gap n r
def poolList (es : List (Nat × CpInfo)) (last : Nat) : List CpInfo := es.foldr (fun e r => gap e.1 (e.2 :: r)) (gap last [])
def pool (es : List (Nat × CpInfo)) (last : Nat) : Array CpInfo := ⟨poolList es last⟩
def fileOf (pool : Array CpInfo) (this : Nat) (attrs : Array Attribute := #[]) (ms : Array MethodInfo := #[]) (fl : Nat := 33) (sup : Nat := 0) (ifs : Array Nat := #[]) (fds : Array FieldInfo := #[]) : ClassFile where
  minorVersion := 0
  majorVersion := 65
  constantPool := pool
  accessFlags := fl
  thisClass := this
  superClass := sup
  interfaces := ifs
  fields := fds
  methods := ms
  attributes := attrs
def plain (name : String) (sup : Option ClassId) : Class where
  name := name
  kind := .ordinary
  loader := none
  accessFlags := 33
  super := sup
  interfaces := #[]
  cf := none
  fields := #[]
  methods := #[]
  instanceTypes := #[]
  staticTypes := #[]
  resolved := #[]
  callSites := []
  init := .initialized
  statics := none
  mirror := none

def pool0 : Array CpInfo := pool [(5, u "<init>"), (0, u "()V"), (1, .class_ 10), (1, u "java/lang/Object")] 113

def k0c0 : Code := { maxStack := 0, maxLocals := 1, code := object_method_1_code, exceptionTable := #[], attributes := #[] }
def k0m0 : Method := { name := "<init>", desc := "()V", sig := { parameters := [], returnType := none }, accessFlags := 1, code := some k0c0 }
/-- java/lang/Object -/
def k0 : Class := { plain "java/lang/Object" none with
  accessFlags := 33
  interfaces := #[]
  cf := some (fileOf pool0 8 #[] #[{ accessFlags := 1, nameIndex := 5, descriptorIndex := 6, attributes := #[] }] 33 0 #[] #[])
  fields := #[]
  methods := #[k0m0]
  instanceTypes := #[]
  staticTypes := #[]
  resolved := Array.replicate 124 none
  statics := none }

def pool1 : Array CpInfo := pool [(2, .class_ 4), (0, .nameAndType 5 6), (0, u "java/lang/Object"), (0, u "<init>"), (0, u "()V"), (0, .integer 2147483647), (0, .class_ 9), (0, u "com/example/comb/comb/search/QueryOptions"), (0, .methodref 8 3), (0, .methodref 8 12), (0, .nameAndType 13 14), (0, u "withCompoundWeights"), (0, u "(Z)Lcom/example/comb/comb/search/QueryOptions;"), (0, .methodref 8 16), (0, .nameAndType 17 18), (0, u "withLeadWeight"), (0, u "(F)Lcom/example/comb/comb/search/QueryOptions;"), (0, .methodref 8 20), (0, .nameAndType 21 18), (0, u "withBigramWeight"), (0, .methodref 8 23), (0, .nameAndType 24 25), (0, u "hasCompoundWeights"), (0, u "()Z"), (0, .methodref 8 27), (0, .nameAndType 28 29), (0, u "getLeadWeight"), (0, u "()F"), (0, .methodref 8 31), (0, .nameAndType 32 29), (0, u "getBigramWeight"), (0, .class_ 34), (0, u "com/example/comb/comb/search/QueryOptionsWithCompoundWeightsPinLaw"), (2, u "law"), (0, u "(III)Z")] 3

def k1m0 : Method := { name := "<init>", desc := "()V", sig := { parameters := [], returnType := none }, accessFlags := 1, code := none }
def k1c1 : Code := { maxStack := 2, maxLocals := 9, code := code, exceptionTable := #[], attributes := #[] }
def k1m1 : Method := { name := "law", desc := "(III)Z", sig := { parameters := [.int, .int, .int], returnType := some .boolean }, accessFlags := 9, code := some k1c1 }
/-- com/example/comb/comb/search/QueryOptionsWithCompoundWeightsPinLaw -/
def k1 : Class := { plain "com/example/comb/comb/search/QueryOptionsWithCompoundWeightsPinLaw" (some 0) with
  accessFlags := 49
  interfaces := #[]
  cf := some (fileOf pool1 33 #[] #[{ accessFlags := 1, nameIndex := 5, descriptorIndex := 6, attributes := #[] }, { accessFlags := 9, nameIndex := 37, descriptorIndex := 38, attributes := #[] }] 49 2 #[] #[])
  fields := #[]
  methods := #[k1m0, k1m1]
  instanceTypes := #[]
  staticTypes := #[]
  resolved := Array.replicate 42 none
  statics := none }

def pool2 : Array CpInfo := pool [(1, .methodref 2 3), (0, .class_ 4), (0, .nameAndType 5 6), (0, u "com/example/comb/comb/search/QueryOptions"), (0, u "<init>"), (0, u "(ZFF)V"), (0, .methodref 8 9), (0, .class_ 10), (0, .nameAndType 5 11), (0, u "java/lang/Object"), (0, u "()V"), (0, .fieldref 2 13), (0, .nameAndType 14 15), (0, u "compoundWeights"), (0, u "Z"), (0, .fieldref 2 17), (0, .nameAndType 18 19), (0, u "leadWeight"), (0, u "F"), (0, .fieldref 2 21), (0, .nameAndType 22 19), (0, u "bigramWeight"), (0, .string 24), (0, u "first paragraph"), (0, .methodref 2 26), (0, .nameAndType 27 28), (0, u "checkWeight"), (0, u "(FLjava/lang/String;)F"), (0, .string 30), (0, u "character bigrams"), (0, .methodref 32 33), (0, .class_ 34), (0, .nameAndType 35 36), (0, u "java/lang/Float"), (0, u "isInfinite"), (0, u "(F)Z"), (11, u "withCompoundWeights"), (0, u "(Z)Lcom/example/comb/comb/search/QueryOptions;"), (0, u "withLeadWeight"), (0, u "(F)Lcom/example/comb/comb/search/QueryOptions;"), (0, u "withBigramWeight"), (0, u "hasCompoundWeights"), (0, u "()Z"), (0, u "getLeadWeight"), (0, u "()F"), (0, u "getBigramWeight")] 18

def k2c0 : Code := { maxStack := 4, maxLocals := 1, code := prog_34_method_1_code, exceptionTable := #[], attributes := #[] }
def k2m0 : Method := { name := "<init>", desc := "()V", sig := { parameters := [], returnType := none }, accessFlags := 1, code := some k2c0 }
def k2c1 : Code := { maxStack := 2, maxLocals := 4, code := prog_34_method_2_code, exceptionTable := #[], attributes := #[] }
def k2m1 : Method := { name := "<init>", desc := "(ZFF)V", sig := { parameters := [.boolean, .float, .float], returnType := none }, accessFlags := 2, code := some k2c1 }
def k2c2 : Code := { maxStack := 5, maxLocals := 2, code := prog_34_method_3_code, exceptionTable := #[], attributes := #[] }
def k2m2 : Method := { name := "withCompoundWeights", desc := "(Z)Lcom/example/comb/comb/search/QueryOptions;", sig := { parameters := [.boolean], returnType := some (.object "com/example/comb/comb/search/QueryOptions") }, accessFlags := 1, code := some k2c2 }
def k2c3 : Code := { maxStack := 5, maxLocals := 2, code := prog_34_method_4_code, exceptionTable := #[], attributes := #[] }
def k2m3 : Method := { name := "withLeadWeight", desc := "(F)Lcom/example/comb/comb/search/QueryOptions;", sig := { parameters := [.float], returnType := some (.object "com/example/comb/comb/search/QueryOptions") }, accessFlags := 1, code := some k2c3 }
def k2c4 : Code := { maxStack := 6, maxLocals := 2, code := prog_34_method_5_code, exceptionTable := #[], attributes := #[] }
def k2m4 : Method := { name := "withBigramWeight", desc := "(F)Lcom/example/comb/comb/search/QueryOptions;", sig := { parameters := [.float], returnType := some (.object "com/example/comb/comb/search/QueryOptions") }, accessFlags := 1, code := some k2c4 }
def k2c5 : Code := { maxStack := 1, maxLocals := 1, code := prog_34_method_6_code, exceptionTable := #[], attributes := #[] }
def k2m5 : Method := { name := "hasCompoundWeights", desc := "()Z", sig := { parameters := [], returnType := some .boolean }, accessFlags := 1, code := some k2c5 }
def k2c6 : Code := { maxStack := 1, maxLocals := 1, code := prog_34_method_7_code, exceptionTable := #[], attributes := #[] }
def k2m6 : Method := { name := "getLeadWeight", desc := "()F", sig := { parameters := [], returnType := some .float }, accessFlags := 1, code := some k2c6 }
def k2c7 : Code := { maxStack := 1, maxLocals := 1, code := prog_34_method_8_code, exceptionTable := #[], attributes := #[] }
def k2m7 : Method := { name := "getBigramWeight", desc := "()F", sig := { parameters := [], returnType := some .float }, accessFlags := 1, code := some k2c7 }
def k2c8 : Code := { maxStack := 4, maxLocals := 2, code := prog_34_method_9_code, exceptionTable := #[], attributes := #[] }
def k2m8 : Method := { name := "checkWeight", desc := "(FLjava/lang/String;)F", sig := { parameters := [.float, (.object "java/lang/String")], returnType := some .float }, accessFlags := 10, code := some k2c8 }
/-- com/example/comb/comb/search/QueryOptions -/
def k2 : Class := { plain "com/example/comb/comb/search/QueryOptions" (some 0) with
  accessFlags := 33
  interfaces := #[]
  cf := some (fileOf pool2 2 #[] #[{ accessFlags := 1, nameIndex := 5, descriptorIndex := 11, attributes := #[] }, { accessFlags := 2, nameIndex := 5, descriptorIndex := 6, attributes := #[] }, { accessFlags := 1, nameIndex := 48, descriptorIndex := 49, attributes := #[] }, { accessFlags := 1, nameIndex := 50, descriptorIndex := 51, attributes := #[] }, { accessFlags := 1, nameIndex := 52, descriptorIndex := 51, attributes := #[] }, { accessFlags := 1, nameIndex := 53, descriptorIndex := 54, attributes := #[] }, { accessFlags := 1, nameIndex := 55, descriptorIndex := 56, attributes := #[] }, { accessFlags := 1, nameIndex := 57, descriptorIndex := 56, attributes := #[] }, { accessFlags := 10, nameIndex := 27, descriptorIndex := 28, attributes := #[] }] 33 8 #[] #[{ accessFlags := 18, nameIndex := 14, descriptorIndex := 15, attributes := #[] }, { accessFlags := 18, nameIndex := 18, descriptorIndex := 19, attributes := #[] }, { accessFlags := 18, nameIndex := 22, descriptorIndex := 19, attributes := #[] }])
  fields := #[{ name := "compoundWeights", type := .boolean, accessFlags := 18, slot := 0, constantValue := 0 }, { name := "leadWeight", type := .float, accessFlags := 18, slot := 1, constantValue := 0 }, { name := "bigramWeight", type := .float, accessFlags := 18, slot := 2, constantValue := 0 }]
  methods := #[k2m0, k2m1, k2m2, k2m3, k2m4, k2m5, k2m6, k2m7, k2m8]
  instanceTypes := #[.boolean, .float, .float]
  staticTypes := #[]
  resolved := Array.replicate 76 none
  statics := none }

def pool3 : Array CpInfo := pool [(1, .class_ 2), (0, u "java/io/Serializable"), (0, .class_ 4), (0, u "java/lang/Object")] 2

/-- java/io/Serializable -/
def k3 : Class := { plain "java/io/Serializable" (some 0) with
  accessFlags := 1537
  interfaces := #[]
  cf := some (fileOf pool3 1 #[] #[] 1537 3 #[] #[])
  fields := #[]
  methods := #[]
  instanceTypes := #[]
  staticTypes := #[]
  resolved := Array.replicate 7 none
  statics := none }

def pool4 : Array CpInfo := pool [(1, .class_ 2), (0, u "java/lang/Comparable"), (0, .class_ 4), (0, u "java/lang/Object")] 7

/-- java/lang/Comparable -/
def k4 : Class := { plain "java/lang/Comparable" (some 0) with
  accessFlags := 1537
  interfaces := #[]
  cf := some (fileOf pool4 1 #[] #[] 1537 3 #[] #[])
  fields := #[]
  methods := #[]
  instanceTypes := #[]
  staticTypes := #[]
  resolved := Array.replicate 12 none
  statics := none }

def pool5 : Array CpInfo := pool [(2, .class_ 4), (1, u "java/lang/CharSequence"), (42, .class_ 48), (0, u "java/lang/CharSequence$1CodePointIterator"), (10, .class_ 60), (0, u "java/lang/CharSequence$1CharIterator"), (5, .class_ 67), (0, u "java/lang/Object")] 63

/-- java/lang/CharSequence -/
def k5 : Class := { plain "java/lang/CharSequence" (some 0) with
  accessFlags := 1537
  interfaces := #[]
  cf := some (fileOf pool5 2 #[.nestMembers #[47, 59]] #[] 1537 66 #[] #[])
  fields := #[]
  methods := #[]
  instanceTypes := #[]
  staticTypes := #[]
  resolved := Array.replicate 131 none
  statics := none }

def pool6 : Array CpInfo := pool [(1, .class_ 2), (0, u "java/lang/constant/Constable"), (0, .class_ 4), (0, u "java/lang/Object")] 6

/-- java/lang/constant/Constable -/
def k6 : Class := { plain "java/lang/constant/Constable" (some 0) with
  accessFlags := 1537
  interfaces := #[]
  cf := some (fileOf pool6 1 #[] #[] 1537 3 #[] #[])
  fields := #[]
  methods := #[]
  instanceTypes := #[]
  staticTypes := #[]
  resolved := Array.replicate 11 none
  statics := none }

def pool7 : Array CpInfo := pool [(1, .class_ 2), (0, u "java/lang/constant/ConstantDesc"), (0, .class_ 4), (0, u "java/lang/Object")] 32

/-- java/lang/constant/ConstantDesc -/
def k7 : Class := { plain "java/lang/constant/ConstantDesc" (some 0) with
  accessFlags := 1537
  interfaces := #[]
  cf := some (fileOf pool7 1 #[] #[] 1537 3 #[] #[])
  fields := #[]
  methods := #[]
  instanceTypes := #[]
  staticTypes := #[]
  resolved := Array.replicate 37 none
  statics := none }

def pool8 : Array CpInfo := pool [(2, .class_ 4), (1, u "java/lang/Object"), (0, u "<init>"), (0, u "()V"), (3, .class_ 12), (1, u "java/lang/String"), (0, u "value"), (0, u "[B"), (2, u "coder"), (0, u "B"), (2, u "hash"), (0, u "I"), (2, u "hashIsZero"), (0, u "Z"), (13, u "COMPACT_STRINGS"), (534, .class_ 576), (0, u "java/lang/CharSequence"), (22, u "CASE_INSENSITIVE_ORDER"), (0, u "Ljava/util/Comparator;"), (500, u "serialPersistentFields"), (0, u "[Ljava/io/ObjectStreamField;"), (0, .class_ 1104), (0, u "java/lang/String$CaseInsensitiveComparator"), (1, .class_ 1107), (0, u "java/io/Serializable"), (0, .class_ 1109), (0, u "java/lang/Comparable"), (0, .class_ 1111), (0, u "java/lang/constant/Constable"), (0, .class_ 1113), (0, u "java/lang/constant/ConstantDesc"), (2, u "serialVersionUID"), (0, u "J"), (3, u "REPL"), (0, u "C"), (2, u "LATIN1"), (1, u "UTF16")] 323

def k8m0 : Method := { name := "<init>", desc := "()V", sig := { parameters := [], returnType := none }, accessFlags := 1, code := none }
/-- java/lang/String -/
def k8 : Class := { plain "java/lang/String" (some 0) with
  accessFlags := 49
  interfaces := #[3, 4, 5, 6, 7]
  cf := some (fileOf pool8 10 #[.nestMembers #[1103]] #[{ accessFlags := 1, nameIndex := 5, descriptorIndex := 6, attributes := #[] }] 49 2 #[1106, 1108, 575, 1110, 1112] #[{ accessFlags := 18, nameIndex := 13, descriptorIndex := 14, attributes := #[] }, { accessFlags := 18, nameIndex := 17, descriptorIndex := 18, attributes := #[] }, { accessFlags := 2, nameIndex := 21, descriptorIndex := 22, attributes := #[] }, { accessFlags := 2, nameIndex := 25, descriptorIndex := 26, attributes := #[] }, { accessFlags := 26, nameIndex := 1116, descriptorIndex := 1117, attributes := #[] }, { accessFlags := 24, nameIndex := 40, descriptorIndex := 26, attributes := #[] }, { accessFlags := 26, nameIndex := 1101, descriptorIndex := 1102, attributes := #[] }, { accessFlags := 26, nameIndex := 1121, descriptorIndex := 1122, attributes := #[] }, { accessFlags := 25, nameIndex := 599, descriptorIndex := 600, attributes := #[] }, { accessFlags := 24, nameIndex := 1125, descriptorIndex := 18, attributes := #[] }, { accessFlags := 24, nameIndex := 1127, descriptorIndex := 18, attributes := #[] }])
  fields := #[{ name := "value", type := (.array .byte), accessFlags := 18, slot := 0, constantValue := 0 }, { name := "coder", type := .byte, accessFlags := 18, slot := 1, constantValue := 0 }, { name := "hash", type := .int, accessFlags := 2, slot := 2, constantValue := 0 }, { name := "hashIsZero", type := .boolean, accessFlags := 2, slot := 3, constantValue := 0 }, { name := "serialVersionUID", type := .long, accessFlags := 26, slot := 0, constantValue := 0 }, { name := "COMPACT_STRINGS", type := .boolean, accessFlags := 24, slot := 1, constantValue := 0 }, { name := "serialPersistentFields", type := (.array (.object "java/io/ObjectStreamField")), accessFlags := 26, slot := 2, constantValue := 0 }, { name := "REPL", type := .char, accessFlags := 26, slot := 3, constantValue := 0 }, { name := "CASE_INSENSITIVE_ORDER", type := (.object "java/util/Comparator"), accessFlags := 25, slot := 4, constantValue := 0 }, { name := "LATIN1", type := .byte, accessFlags := 24, slot := 5, constantValue := 0 }, { name := "UTF16", type := .byte, accessFlags := 24, slot := 6, constantValue := 0 }]
  methods := #[k8m0]
  instanceTypes := #[(.array .byte), .byte, .int, .boolean]
  staticTypes := #[.long, .boolean, (.array (.object "java/io/ObjectStreamField")), .char, (.object "java/util/Comparator"), .byte, .byte]
  resolved := Array.replicate 1451 none
  statics := none }

def pool9 : Array CpInfo := pool [(2, .class_ 4), (1, u "java/lang/Object"), (0, u "<init>"), (0, u "()V"), (1, .class_ 10), (1, u "java/lang/Number"), (2, .class_ 14), (0, u "java/io/Serializable"), (0, u "serialVersionUID"), (0, u "J")] 20

def k9m0 : Method := { name := "<init>", desc := "()V", sig := { parameters := [], returnType := none }, accessFlags := 1, code := none }
/-- java/lang/Number -/
def k9 : Class := { plain "java/lang/Number" (some 0) with
  accessFlags := 1057
  interfaces := #[3]
  cf := some (fileOf pool9 8 #[] #[{ accessFlags := 1, nameIndex := 5, descriptorIndex := 6, attributes := #[] }] 1057 2 #[13] #[{ accessFlags := 26, nameIndex := 15, descriptorIndex := 16, attributes := #[] }])
  fields := #[{ name := "serialVersionUID", type := .long, accessFlags := 26, slot := 0, constantValue := 0 }]
  methods := #[k9m0]
  instanceTypes := #[]
  staticTypes := #[.long]
  resolved := Array.replicate 37 none
  statics := none }

def pool10 : Array CpInfo := pool [(1, .class_ 2), (0, u "java/lang/Float"), (8, .methodref 12 13), (0, .class_ 14), (0, .nameAndType 15 16), (0, u "java/lang/Math"), (0, u "abs"), (0, u "(F)F"), (32, .float 2139095039), (1, .class_ 53), (1, u "java/lang/Number"), (3, u "value"), (0, u "F"), (3, u "(F)Z"), (2, u "isInfinite"), (25, u "$assertionsDisabled"), (0, u "Z"), (52, u "TYPE"), (0, u "Ljava/lang/Class;"), (0, .class_ 148), (0, u "java/lang/Comparable"), (0, .class_ 150), (0, u "java/lang/constant/Constable"), (0, .class_ 152), (0, u "java/lang/constant/ConstantDesc"), (0, u "POSITIVE_INFINITY"), (1, u "NEGATIVE_INFINITY"), (1, u "NaN"), (1, u "MAX_VALUE"), (0, u "MIN_NORMAL"), (0, u "MIN_VALUE"), (1, u "SIZE"), (0, u "I"), (1, u "PRECISION"), (1, u "MAX_EXPONENT"), (1, u "MIN_EXPONENT"), (1, u "BYTES"), (3, u "serialVersionUID"), (0, u "J")] 101

def k10c0 : Code := { maxStack := 2, maxLocals := 1, code := jdk_118_method_7_code, exceptionTable := #[], attributes := #[] }
def k10m0 : Method := { name := "isInfinite", desc := "(F)Z", sig := { parameters := [.float], returnType := some .boolean }, accessFlags := 9, code := some k10c0 }
/-- java/lang/Float -/
def k10 : Class := { plain "java/lang/Float" (some 9) with
  accessFlags := 49
  interfaces := #[4, 6, 7]
  cf := some (fileOf pool10 1 #[] #[{ accessFlags := 9, nameIndex := 65, descriptorIndex := 62, attributes := #[] }] 49 51 #[147, 149, 151] #[{ accessFlags := 25, nameIndex := 153, descriptorIndex := 58, attributes := #[] }, { accessFlags := 25, nameIndex := 155, descriptorIndex := 58, attributes := #[] }, { accessFlags := 25, nameIndex := 157, descriptorIndex := 58, attributes := #[] }, { accessFlags := 25, nameIndex := 159, descriptorIndex := 58, attributes := #[] }, { accessFlags := 25, nameIndex := 160, descriptorIndex := 58, attributes := #[] }, { accessFlags := 25, nameIndex := 161, descriptorIndex := 58, attributes := #[] }, { accessFlags := 25, nameIndex := 163, descriptorIndex := 164, attributes := #[] }, { accessFlags := 25, nameIndex := 166, descriptorIndex := 164, attributes := #[] }, { accessFlags := 25, nameIndex := 168, descriptorIndex := 164, attributes := #[] }, { accessFlags := 25, nameIndex := 170, descriptorIndex := 164, attributes := #[] }, { accessFlags := 25, nameIndex := 172, descriptorIndex := 164, attributes := #[] }, { accessFlags := 25, nameIndex := 145, descriptorIndex := 146, attributes := #[] }, { accessFlags := 18, nameIndex := 57, descriptorIndex := 58, attributes := #[] }, { accessFlags := 26, nameIndex := 176, descriptorIndex := 177, attributes := #[] }, { accessFlags := 4120, nameIndex := 91, descriptorIndex := 92, attributes := #[] }])
  fields := #[{ name := "POSITIVE_INFINITY", type := .float, accessFlags := 25, slot := 0, constantValue := 0 }, { name := "NEGATIVE_INFINITY", type := .float, accessFlags := 25, slot := 1, constantValue := 0 }, { name := "NaN", type := .float, accessFlags := 25, slot := 2, constantValue := 0 }, { name := "MAX_VALUE", type := .float, accessFlags := 25, slot := 3, constantValue := 0 }, { name := "MIN_NORMAL", type := .float, accessFlags := 25, slot := 4, constantValue := 0 }, { name := "MIN_VALUE", type := .float, accessFlags := 25, slot := 5, constantValue := 0 }, { name := "SIZE", type := .int, accessFlags := 25, slot := 6, constantValue := 0 }, { name := "PRECISION", type := .int, accessFlags := 25, slot := 7, constantValue := 0 }, { name := "MAX_EXPONENT", type := .int, accessFlags := 25, slot := 8, constantValue := 0 }, { name := "MIN_EXPONENT", type := .int, accessFlags := 25, slot := 9, constantValue := 0 }, { name := "BYTES", type := .int, accessFlags := 25, slot := 10, constantValue := 0 }, { name := "TYPE", type := (.object "java/lang/Class"), accessFlags := 25, slot := 11, constantValue := 0 }, { name := "value", type := .float, accessFlags := 18, slot := 0, constantValue := 0 }, { name := "serialVersionUID", type := .long, accessFlags := 26, slot := 12, constantValue := 0 }, { name := "$assertionsDisabled", type := .boolean, accessFlags := 4120, slot := 13, constantValue := 0 }]
  methods := #[k10m0]
  instanceTypes := #[.float]
  staticTypes := #[.float, .float, .float, .float, .float, .float, .int, .int, .int, .int, .int, (.object "java/lang/Class"), .long, .boolean]
  resolved := Array.replicate 279 none
  statics := none }

def pool11 : Array CpInfo := pool [(1, .class_ 2), (0, u "java/lang/Math"), (1, .class_ 6), (1, u "java/lang/Object"), (0, u "<init>"), (0, u "()V"), (89, .class_ 100), (1, u "java/lang/Math$RandomNumberGeneratorHolder"), (23, u "abs"), (47, u "negativeZeroFloatBits"), (0, u "J"), (2, u "negativeZeroDoubleBits"), (68, u "$assertionsDisabled"), (0, u "Z"), (47, u "(F)F"), (43, u "twoToTheDoubleScaleDown"), (0, u "D"), (4, u "twoToTheDoubleScaleUp"), (9, u "E"), (3, u "PI"), (2, u "TAU"), (2, u "DEGREES_TO_RADIANS"), (0, u "RADIANS_TO_DEGREES")] 94

def k11m0 : Method := { name := "<init>", desc := "()V", sig := { parameters := [], returnType := none }, accessFlags := 2, code := none }
def k11c1 : Code := { maxStack := 2, maxLocals := 1, code := jdk_29_method_63_code, exceptionTable := #[], attributes := #[] }
def k11m1 : Method := { name := "abs", desc := "(F)F", sig := { parameters := [.float], returnType := some .float }, accessFlags := 9, code := some k11c1 }
/-- java/lang/Math -/
def k11 : Class := { plain "java/lang/Math" (some 0) with
  accessFlags := 49
  interfaces := #[]
  cf := some (fileOf pool11 1 #[.nestMembers #[98]] #[{ accessFlags := 2, nameIndex := 7, descriptorIndex := 8, attributes := #[] }, { accessFlags := 9, nameIndex := 124, descriptorIndex := 294, attributes := #[] }] 49 4 #[] #[{ accessFlags := 25, nameIndex := 354, descriptorIndex := 339, attributes := #[] }, { accessFlags := 25, nameIndex := 358, descriptorIndex := 339, attributes := #[] }, { accessFlags := 25, nameIndex := 361, descriptorIndex := 339, attributes := #[] }, { accessFlags := 26, nameIndex := 364, descriptorIndex := 339, attributes := #[] }, { accessFlags := 26, nameIndex := 365, descriptorIndex := 339, attributes := #[] }, { accessFlags := 26, nameIndex := 172, descriptorIndex := 173, attributes := #[] }, { accessFlags := 26, nameIndex := 176, descriptorIndex := 173, attributes := #[] }, { accessFlags := 8, nameIndex := 344, descriptorIndex := 339, attributes := #[] }, { accessFlags := 8, nameIndex := 338, descriptorIndex := 339, attributes := #[] }, { accessFlags := 4120, nameIndex := 245, descriptorIndex := 246, attributes := #[] }])
  fields := #[{ name := "E", type := .double, accessFlags := 25, slot := 0, constantValue := 0 }, { name := "PI", type := .double, accessFlags := 25, slot := 1, constantValue := 0 }, { name := "TAU", type := .double, accessFlags := 25, slot := 2, constantValue := 0 }, { name := "DEGREES_TO_RADIANS", type := .double, accessFlags := 26, slot := 3, constantValue := 0 }, { name := "RADIANS_TO_DEGREES", type := .double, accessFlags := 26, slot := 4, constantValue := 0 }, { name := "negativeZeroFloatBits", type := .long, accessFlags := 26, slot := 5, constantValue := 0 }, { name := "negativeZeroDoubleBits", type := .long, accessFlags := 26, slot := 6, constantValue := 0 }, { name := "twoToTheDoubleScaleUp", type := .double, accessFlags := 8, slot := 7, constantValue := 0 }, { name := "twoToTheDoubleScaleDown", type := .double, accessFlags := 8, slot := 8, constantValue := 0 }, { name := "$assertionsDisabled", type := .boolean, accessFlags := 4120, slot := 9, constantValue := 0 }]
  methods := #[k11m0, k11m1]
  instanceTypes := #[]
  staticTypes := #[.double, .double, .double, .double, .double, .long, .long, .double, .double, .boolean]
  resolved := Array.replicate 460 none
  statics := none }

def pool12 : Array CpInfo := pool [(1, u "java/lang/Cloneable"), (0, .class_ 1), (0, u "java/lang/Object"), (0, .class_ 3)] 3

/-- java/lang/Cloneable -/
def k12 : Class := { plain "java/lang/Cloneable" (some 0) with
  accessFlags := 1537
  interfaces := #[]
  cf := some (fileOf pool12 2 #[] #[] 1537 4 #[] #[])
  fields := #[]
  methods := #[]
  instanceTypes := #[]
  staticTypes := #[]
  resolved := Array.replicate 8 none
  statics := none }

/-- the primitive byte -/
def k13 : Class := { plain "byte" none with kind := .primitive 'B', accessFlags := 0x411 }
/-- [B -/
def k14 : Class := { plain "[B" (some 0) with kind := .array 13 .byte, interfaces := #[12, 3], accessFlags := 1041 }

/-- the primitive int -/
def k15 : Class := { plain "int" none with kind := .primitive 'I', accessFlags := 0x411 }
/-- [I -/
def k16 : Class := { plain "[I" (some 0) with kind := .array 15 .int, interfaces := #[12, 3], accessFlags := 1041 }

def heap : Heap := #[]
def classes : Array Class := #[k0, k1, k2, k3, k4, k5, k6, k7, k8, k9, k10, k11, k12, k13, k14, k15, k16]
def interned : List (Array UInt16 × Addr) := []
def slotsUsed : Nat := 0
def theMethod : MethodId := ⟨1, 1⟩
def args0 : Array Value := #[.int 5, .int 6, .int 7]
def aboutOver (below : List Frame) : State where
  vm := { classes := classes, interned := interned.toArray }
  heap := heap
  slotsUsed := slotsUsed
  threads := #[{ frames := .invoking theMethod args0 :: below }]
def below0 : List Frame := [.native { method := ⟨0, 0⟩, args := #[] }]
def about1 : State := aboutOver below0
def p0 : Program := .bare "" "" ""
def e0 : Env := launch0.env 0 0 0
theorem w_frames : about1.frames = Frame.invoking theMethod args0 :: below0 := rfl
set_option maxRecDepth 65536 in
theorem w_args : argsFit about1.vm theMethod args0 = true := by decide +kernel
set_option maxRecDepth 65536 in
theorem w_heap : heapFits about1 = true := by decide +kernel
set_option maxRecDepth 65536 in
theorem w_runnable : about1.curStatus? = some .runnable := by decide +kernel
set_option maxRecDepth 65536 in
theorem w_alone : about1.alone = true := by decide +kernel
set_option maxRecDepth 65536 in
theorem w_named : about1.methodNamed? x = some theMethod := by decide +kernel
set_option maxRecDepth 65536 in
theorem w_hears : about1.hears theMethod below0 = true := by decide +kernel
set_option maxRecDepth 65536 in
theorem w_ripe : about1.ripe theMethod args0 below0 = true := by decide +kernel
theorem w_running : about1.status = .running := rfl
set_option maxRecDepth 65536 in
theorem w_room : about1.hasRoom e0.platform room_1 = true :=
  launch0.hasRoom_least _ room_1 (by decide +kernel) (by decide +kernel) (by decide +kernel) (by decide +kernel) (by decide +kernel) (by decide +kernel)
theorem allAtoms_all (ts : List Jvm.Cond) (a : Array Jvm.Value) (st : Jvm.State) : (allAtoms ts).before a st = ts.all (fun c => c.before a st) := by
  induction ts with
  | nil => rfl
  | cons c t ih =>
    show (Jvm.Cond.and c (allAtoms t)).before a st = _
    rw [Jvm.Cond.before_and, ih, List.all_cons]
def words1 : List Jvm.Cond := Jvm.Cond.code x code maxLocals ret :: tables_1
/-- a 'code' word, met by the world's own term for the bytes: nothing is compared byte by byte -/
theorem code_word {y : MethodName} {bytes : ByteArray} {mx : Nat} {rt : Option FieldType} {a : Array Value} {s : State} {m : MethodId} {meth : Method} {c : Code} (h1 : s.methodNamed? y = some m) (h2 : s.vm.method? m = some meth) (h3 : meth.code = some c) (h4 : c.code = bytes)
    (h5 : (c.maxLocals == mx && c.exceptionTable.isEmpty && decide (c.maxStack ≤ mostOperands) && decide (meth.sig.returnType = rt) && !meth.locks && decide (parseMethodDescriptor y.desc = some meth.sig)) = true) : (Jvm.Cond.code y bytes mx rt).before a s = true := by
  simp only [Bool.and_eq_true, beq_iff_eq, Bool.not_eq_true', decide_eq_true_eq] at h5
  obtain ⟨⟨⟨⟨⟨g1, g2⟩, g3⟩, g4⟩, g5⟩, g6⟩ := h5
  simp [Cond.before, Cond.holds, Cond.value, h1, h2, h3, h4, g1, g2, g3, g4, g5, g6]
def isCode : Jvm.Cond → Bool
  | .code _ _ _ _ => true
  | _ => false
theorem all_split {L : List Jvm.Cond} {P : Jvm.Cond → Bool} (h1 : L.all (fun c => isCode c || P c) = true) (h2 : ∀ c ∈ L.filter isCode, P c = true) : L.all P = true := by
  refine List.all_eq_true.mpr fun c hc => ?_
  have h := List.all_eq_true.mp h1 c hc
  rcases Bool.eq_false_or_eq_true (isCode c) with hi | hi
  · exact h2 c (List.mem_filter.mpr ⟨hc, hi⟩)
  · simpa [hi] using h
set_option maxRecDepth 65536 in
theorem w_c0 : (Jvm.Cond.code x code maxLocals ret).before args0 about1 = true := code_word (m := ⟨1, 1⟩) (meth := k1m1) (c := k1c1) (by decide +kernel) rfl rfl rfl (by decide +kernel)
set_option maxRecDepth 65536 in
theorem w_c1 : (Jvm.Cond.code ({ cls := "com/example/comb/comb/search/QueryOptions", name := "<init>", desc := "()V" } : Jvm.MethodName) prog_34_method_1_code (1 : Nat) (Option.none : Option Jvm.ClassFile.FieldType)).before args0 about1 = true := code_word (m := ⟨2, 0⟩) (meth := k2m0) (c := k2c0) (by decide +kernel) rfl rfl rfl (by decide +kernel)
set_option maxRecDepth 65536 in
theorem w_c2 : (Jvm.Cond.code ({ cls := "com/example/comb/comb/search/QueryOptions", name := "<init>", desc := "(ZFF)V" } : Jvm.MethodName) prog_34_method_2_code (4 : Nat) (Option.none : Option Jvm.ClassFile.FieldType)).before args0 about1 = true := code_word (m := ⟨2, 1⟩) (meth := k2m1) (c := k2c1) (by decide +kernel) rfl rfl rfl (by decide +kernel)
set_option maxRecDepth 65536 in
theorem w_c3 : (Jvm.Cond.code ({ cls := "java/lang/Object", name := "<init>", desc := "()V" } : Jvm.MethodName) object_method_1_code (1 : Nat) (Option.none : Option Jvm.ClassFile.FieldType)).before args0 about1 = true := code_word (m := ⟨0, 0⟩) (meth := k0m0) (c := k0c0) (by decide +kernel) rfl rfl rfl (by decide +kernel)
set_option maxRecDepth 65536 in
theorem w_c4 : (Jvm.Cond.code ({ cls := "com/example/comb/comb/search/QueryOptions", name := "withCompoundWeights", desc := "(Z)Lcom/example/comb/comb/search/QueryOptions;" } : Jvm.MethodName) prog_34_method_3_code (2 : Nat) (Option.some (Jvm.ClassFile.FieldType.object "com/example/comb/comb/search/QueryOptions"))).before args0 about1 = true := code_word (m := ⟨2, 2⟩) (meth := k2m2) (c := k2c2) (by decide +kernel) rfl rfl rfl (by decide +kernel)
set_option maxRecDepth 65536 in
theorem w_c5 : (Jvm.Cond.code ({ cls := "com/example/comb/comb/search/QueryOptions", name := "withLeadWeight", desc := "(F)Lcom/example/comb/comb/search/QueryOptions;" } : Jvm.MethodName) prog_34_method_4_code (2 : Nat) (Option.some (Jvm.ClassFile.FieldType.object "com/example/comb/comb/search/QueryOptions"))).before args0 about1 = true := code_word (m := ⟨2, 3⟩) (meth := k2m3) (c := k2c3) (by decide +kernel) rfl rfl rfl (by decide +kernel)
set_option maxRecDepth 65536 in
theorem w_c6 : (Jvm.Cond.code ({ cls := "com/example/comb/comb/search/QueryOptions", name := "checkWeight", desc := "(FLjava/lang/String;)F" } : Jvm.MethodName) prog_34_method_9_code (2 : Nat) (Option.some Jvm.ClassFile.FieldType.float)).before args0 about1 = true := code_word (m := ⟨2, 8⟩) (meth := k2m8) (c := k2c8) (by decide +kernel) rfl rfl rfl (by decide +kernel)
set_option maxRecDepth 65536 in
theorem w_c7 : (Jvm.Cond.code ({ cls := "java/lang/Float", name := "isInfinite", desc := "(F)Z" } : Jvm.MethodName) jdk_118_method_7_code (1 : Nat) (Option.some Jvm.ClassFile.FieldType.boolean)).before args0 about1 = true := code_word (m := ⟨10, 0⟩) (meth := k10m0) (c := k10c0) (by decide +kernel) rfl rfl rfl (by decide +kernel)
set_option maxRecDepth 65536 in
theorem w_c8 : (Jvm.Cond.code ({ cls := "java/lang/Math", name := "abs", desc := "(F)F" } : Jvm.MethodName) jdk_29_method_63_code (1 : Nat) (Option.some Jvm.ClassFile.FieldType.float)).before args0 about1 = true := code_word (m := ⟨11, 1⟩) (meth := k11m1) (c := k11c1) (by decide +kernel) rfl rfl rfl (by decide +kernel)
set_option maxRecDepth 65536 in
theorem w_c9 : (Jvm.Cond.code ({ cls := "com/example/comb/comb/search/QueryOptions", name := "withBigramWeight", desc := "(F)Lcom/example/comb/comb/search/QueryOptions;" } : Jvm.MethodName) prog_34_method_5_code (2 : Nat) (Option.some (Jvm.ClassFile.FieldType.object "com/example/comb/comb/search/QueryOptions"))).before args0 about1 = true := code_word (m := ⟨2, 4⟩) (meth := k2m4) (c := k2c4) (by decide +kernel) rfl rfl rfl (by decide +kernel)
set_option maxRecDepth 65536 in
theorem w_c10 : (Jvm.Cond.code ({ cls := "com/example/comb/comb/search/QueryOptions", name := "hasCompoundWeights", desc := "()Z" } : Jvm.MethodName) prog_34_method_6_code (1 : Nat) (Option.some Jvm.ClassFile.FieldType.boolean)).before args0 about1 = true := code_word (m := ⟨2, 5⟩) (meth := k2m5) (c := k2c5) (by decide +kernel) rfl rfl rfl (by decide +kernel)
set_option maxRecDepth 65536 in
theorem w_c11 : (Jvm.Cond.code ({ cls := "com/example/comb/comb/search/QueryOptions", name := "getLeadWeight", desc := "()F" } : Jvm.MethodName) prog_34_method_7_code (1 : Nat) (Option.some Jvm.ClassFile.FieldType.float)).before args0 about1 = true := code_word (m := ⟨2, 6⟩) (meth := k2m6) (c := k2c6) (by decide +kernel) rfl rfl rfl (by decide +kernel)
set_option maxRecDepth 65536 in
theorem w_c12 : (Jvm.Cond.code ({ cls := "com/example/comb/comb/search/QueryOptions", name := "getBigramWeight", desc := "()F" } : Jvm.MethodName) prog_34_method_8_code (1 : Nat) (Option.some Jvm.ClassFile.FieldType.float)).before args0 about1 = true := code_word (m := ⟨2, 7⟩) (meth := k2m7) (c := k2c7) (by decide +kernel) rfl rfl rfl (by decide +kernel)
def codes1 : List Jvm.Cond := [Jvm.Cond.code x code maxLocals ret, Jvm.Cond.code ({ cls := "com/example/comb/comb/search/QueryOptions", name := "<init>", desc := "()V" } : Jvm.MethodName) prog_34_method_1_code (1 : Nat) (Option.none : Option Jvm.ClassFile.FieldType), Jvm.Cond.code ({ cls := "com/example/comb/comb/search/QueryOptions", name := "<init>", desc := "(ZFF)V" } : Jvm.MethodName) prog_34_method_2_code (4 : Nat) (Option.none : Option Jvm.ClassFile.FieldType), Jvm.Cond.code ({ cls := "java/lang/Object", name := "<init>", desc := "()V" } : Jvm.MethodName) object_method_1_code (1 : Nat) (Option.none : Option Jvm.ClassFile.FieldType), Jvm.Cond.code ({ cls := "com/example/comb/comb/search/QueryOptions", name := "withCompoundWeights", desc := "(Z)Lcom/example/comb/comb/search/QueryOptions;" } : Jvm.MethodName) prog_34_method_3_code (2 : Nat) (Option.some (Jvm.ClassFile.FieldType.object "com/example/comb/comb/search/QueryOptions")), Jvm.Cond.code ({ cls := "com/example/comb/comb/search/QueryOptions", name := "withLeadWeight", desc := "(F)Lcom/example/comb/comb/search/QueryOptions;" } : Jvm.MethodName) prog_34_method_4_code (2 : Nat) (Option.some (Jvm.ClassFile.FieldType.object "com/example/comb/comb/search/QueryOptions")), Jvm.Cond.code ({ cls := "com/example/comb/comb/search/QueryOptions", name := "checkWeight", desc := "(FLjava/lang/String;)F" } : Jvm.MethodName) prog_34_method_9_code (2 : Nat) (Option.some Jvm.ClassFile.FieldType.float), Jvm.Cond.code ({ cls := "java/lang/Float", name := "isInfinite", desc := "(F)Z" } : Jvm.MethodName) jdk_118_method_7_code (1 : Nat) (Option.some Jvm.ClassFile.FieldType.boolean), Jvm.Cond.code ({ cls := "java/lang/Math", name := "abs", desc := "(F)F" } : Jvm.MethodName) jdk_29_method_63_code (1 : Nat) (Option.some Jvm.ClassFile.FieldType.float), Jvm.Cond.code ({ cls := "com/example/comb/comb/search/QueryOptions", name := "withBigramWeight", desc := "(F)Lcom/example/comb/comb/search/QueryOptions;" } : Jvm.MethodName) prog_34_method_5_code (2 : Nat) (Option.some (Jvm.ClassFile.FieldType.object "com/example/comb/comb/search/QueryOptions")), Jvm.Cond.code ({ cls := "com/example/comb/comb/search/QueryOptions", name := "hasCompoundWeights", desc := "()Z" } : Jvm.MethodName) prog_34_method_6_code (1 : Nat) (Option.some Jvm.ClassFile.FieldType.boolean), Jvm.Cond.code ({ cls := "com/example/comb/comb/search/QueryOptions", name := "getLeadWeight", desc := "()F" } : Jvm.MethodName) prog_34_method_7_code (1 : Nat) (Option.some Jvm.ClassFile.FieldType.float), Jvm.Cond.code ({ cls := "com/example/comb/comb/search/QueryOptions", name := "getBigramWeight", desc := "()F" } : Jvm.MethodName) prog_34_method_8_code (1 : Nat) (Option.some Jvm.ClassFile.FieldType.float)]
set_option maxRecDepth 65536 in
theorem codes_eq : words1.filter isCode = codes1 := rfl
theorem w_codes : ∀ c ∈ words1.filter isCode, c.before args0 about1 = true := by
  rw [codes_eq]
  intro c hc
  simp only [codes1, List.mem_cons, List.not_mem_nil, or_false] at hc
  rcases hc with rfl | rfl | rfl | rfl | rfl | rfl | rfl | rfl | rfl | rfl | rfl | rfl | rfl
  · exact w_c0
  · exact w_c1
  · exact w_c2
  · exact w_c3
  · exact w_c4
  · exact w_c5
  · exact w_c6
  · exact w_c7
  · exact w_c8
  · exact w_c9
  · exact w_c10
  · exact w_c11
  · exact w_c12
set_option maxRecDepth 65536 in
theorem w_t1 : (words1.take 24).all (fun c => isCode c || c.before args0 about1) = true := by decide +kernel
set_option maxRecDepth 65536 in
theorem w_t2 : ((words1.drop 24).take 24).all (fun c => isCode c || c.before args0 about1) = true := by decide +kernel
set_option maxRecDepth 65536 in
theorem w_t3 : ((words1.drop 24).drop 24).all (fun c => isCode c || c.before args0 about1) = true := by decide +kernel
theorem w_tables : (allAtoms (Jvm.Cond.code x code maxLocals ret :: tables_1)).before args0 about1 = true := by
  rw [allAtoms_all]
  show words1.all (fun c => c.before args0 about1) = true
  refine all_split ?_ w_codes
  rw [← List.take_append_drop 24 words1, List.all_append, w_t1, ← List.take_append_drop 24 (words1.drop 24), List.all_append, w_t2, w_t3]
  rfl
set_option maxRecDepth 65536 in
theorem w_case : (Jvm.Cond.and given_1 narrow_1).before args0 about1 = true := by decide +kernel
theorem w_applies : (headSpec (Jvm.Cond.code x code maxLocals ret :: tables_1) room_1).applies x e0.platform about1 = true :=
  (Spec.applies_iff w_frames).mpr ⟨w_running, w_runnable, w_alone, w_named, w_hears, w_ripe, w_room, w_tables⟩
theorem atStart : AtStart classFile x code maxLocals ret World_1 tables_1 room_1 Calls_1 rest_1 Pre_1 launch0 p0 e0 about1 theMethod args0 below0 :=
  ⟨lists_1, trivial, launch0.admits_env _ _ _, launch0.least_env, fairChoices_fair.cas, fairChoices_fair.clock, w_frames, w_args, w_heap, w_applies, trivial, trivial, w_case⟩
end start1
theorem witness_1 : WitnessClaimed_1 := ⟨start1.p0, start1.e0, start1.about1, start1.theMethod, start1.args0, start1.below0, start1.atStart⟩
end Jvm.Pilot.@@N@@
