import JvmDerived
import JvmDerived.Pilot.@@N@@Statement
import JvmDerived.Pilot.@@N@@Code
set_option linter.unusedVariables false
set_option linter.unusedSimpArgs false


namespace Jvm.RoadKit
open Sem ClassFile Op Lib Jvm.Stand Jvm.Free Jvm.LawKit
section Own
variable {Z : State} {h h0 h' : Heap} {a b : Addr} {k : ClassId} {n j : Int32} {vs : List Value} {dv : Value}
theorem Arv.inb {ty : FieldType} (A : Arv Z h a k ty n vs dv) (h1 : ¬ j < 0) (h2 : j < n) : ∃ c, Arr Z h a c ty ∧ c.cls = k ∧ c.slots.size = n.toNatClampNeg ∧ ¬ n < 0 ∧ Has c vs dv ∧ (∀ i, i < c.slots.size → fits ty (vs.getD i dv) = true) ∧ ¬ (j < 0 ∨ c.slots.size ≤ j.toNatClampNeg) := by
  obtain ⟨c, A1, A2, A3, A4, A5, A6⟩ := A
  exact ⟨c, A1, A2, A3, A4, A5, A6, inb_of A3 ⟨h1, h2⟩⟩
theorem Ext.keepN (E : Ext h0 h) (K : Keep h h' [b]) (q : h0.size ≤ b) : Ext h0 h' := ⟨Nat.le_trans E.1 K.1, fun x c hx => K.2.1 x c (E.2 x c hx) fun z => by
  cases List.mem_singleton.mp z
  exact absurd (Array.getElem?_eq_some_iff.mp hx).1 (Nat.not_lt.mpr q)⟩
theorem Ext.keepL {ws : List Addr} (E : Ext h0 h) (K : Keep h h' ws) (q : ∀ x ∈ ws, h0.size ≤ x) : Ext h0 h' := ⟨Nat.le_trans E.1 K.1, fun x c hx => K.2.1 x c (E.2 x c hx) fun z => absurd (Array.getElem?_eq_some_iff.mp hx).1 (Nat.not_lt.mpr (q x z))⟩
theorem Ext.rfl' : Ext h h := ⟨Nat.le_refl _, fun _ _ q => q⟩
theorem Ext.tr {h1 : Heap} (E : Ext h h1) (E' : Ext h1 h') : Ext h h' := ⟨Nat.le_trans E.1 E'.1, fun x c q => E'.2 x c (E.2 x c q)⟩
theorem Ext.wrN {sl : Nat} {v : Value} (E : Ext h0 h) (W : Wr h h' a sl v) (q : h0.size ≤ a) : Ext h0 h' := E.keepN (Keep.of_wr W) q
end Own
end Jvm.RoadKit

namespace Jvm.OwnKit
open Sem ClassFile Op Lib Jvm.Stand Jvm.Free Jvm.LawKit Jvm.RoadKit
/-- the String constants that the walk has loaded, each with its object (none: not kept) -/
abbrev Sg : Type := Option (List (String × Nat × String × Addr))
def VOk (Z : State) (vm : Vm) : Sg → Prop
  | none => True
  | some L => IB Z vm (L.map fun q => q.2.2.1) ∧ ∀ q ∈ L, Lit (Z.setVm vm) q.1 q.2.1 q.2.2.2
theorem VOk.warm {Z s : State} {vm0 vm1 : Vm} {σ : Sg} (V : VOk Z vm0 σ) (hW : (s.setVm vm0).WarmedH vm1) : VOk Z vm1 σ := by
  cases σ with
  | none => trivial
  | some L =>
    obtain ⟨⟨more, e, hm⟩, hl⟩ := V
    refine ⟨⟨more, ?_, hm⟩, fun q hq => ?_⟩
    · rw [hW.interned_eq]; exact e
    · have h1 : Lit (s.setVm vm0) q.1 q.2.1 q.2.2.2 := hl q hq
      exact Lit.stays h1 hW.wide
/-- the unsigned shifts, the comparing of longs, as the machine spells them -/
abbrev ushr (x y : Int32) : Int32 := (x.toUInt32 >>> (y &&& 31).toUInt32).toInt32
abbrev ushrL (x : Int64) (y : Int32) : Int64 := (x.toUInt64 >>> (y &&& 63).toInt64.toUInt64).toInt64
abbrev cmpL (x y : Int64) : Int32 := if x > y then 1 else if x = y then 0 else -1
/-- the data of one walk of one body -/
abbrev Cx : Type := Program × Launch × Env × Room × State × MethodId × Array Value × List Frame × Method × Code × State × Nat × (Option Value → Heap → Sg → Prop)
/-- from this pc, these locals, this stack and this heap the body comes to its end as promised -/
def Go : Cx → Sg → Heap → Nat → Nat → Nat → Array Slot → List Value → Prop
  | (p, l, e, R, s, m, args, below, meth, c, Z, n0, Q), σ, h, ce, sl, pc, ls, st =>
    ∀ (vm0 : Vm) (k0 : Nat) (T : State) (locs : List Loc), Stand p l e R (s.setVm vm0) m args below meth c T locs ce sl → s.Since vm0 k0 → k0 ≤ h.size → VOk Z vm0 σ → Old Z n0 h → T.heap = h → Fr n0 locs →
      ∃ (s₂ : State) (o : Outcome), Steps p.tables e below (T.setTop (mkF m pc ls st)) s₂ ∧ s₂.status = .running ∧ Ended s₂ below o ∧
        ∃ (v : Option Value) (L : List Loc) (σ' : Sg), o = .returned v ∧ (Fr n0 L ∧ VOk Z s₂.vm σ' ∧ Old Z n0 s₂.heap ∧ Q v s₂.heap σ') ∧ ReturnedEndW s o s₂ L R.cells R.slots
/-- what is known of a walk's data -/
def Amb : Cx → Launch → State → MethodName → ByteArray → Nat → Option FieldType → Room → Heap → Nat → (Option Value → Heap → Sg → Prop) → Prop
  | (p, l', e, R, s, m, args, below, meth, c, Z', n0', Q'), l, Z, y, code, maxL, ret, rm, h0, n0, Q =>
    l' = l ∧ R = rm ∧ Z' = Z ∧ n0' = n0 ∧ (∀ v h σ, Q v h σ → Q' v h σ) ∧ p.tables.exec = Jvm.exec ∧ Z.Warmed39 s.vm ∧ s.vm.findClass y.cls = some m.cls ∧ c.code = code ∧ c.maxLocals = maxL ∧ meth.sig.returnType = ret ∧ meth.locks = false ∧ meth.name = y.name ∧ s.heap = h0
/-- a body's contract -/
def Con (l : Launch) (Z : State) (y : MethodName) (code : ByteArray) (maxL : Nat) (ret : Option FieldType) (rm : Room) (ws : List Jvm.Cond) (as : Array Value) (σ : Sg) (h0 : Heap) (n0 : Nat) (Q : Option Value → Heap → Sg → Prop) : Prop :=
  MetFree l y (head1 (Jvm.Cond.code y code maxL ret :: ws) rm) (fun a U => a = as ∧ Z.Warmed39 U.vm ∧ U.heap = h0 ∧ VOk Z U.vm σ ∧ Old Z n0 U.heap) (fun _ _ _ _ _ => True)
    (fun _ U o U' => ∃ v L σ', o = .returned v ∧ (Fr n0 L ∧ VOk Z U'.vm σ' ∧ Old Z n0 U'.heap ∧ Q v U'.heap σ') ∧ ReturnedEndW U o U' L rm.cells rm.slots)
section Rules
variable {κ : Cx} {l : Launch} {Z : State} {y : MethodName} {code : ByteArray} {maxL : Nat} {ret : Option FieldType} {rm : Room} {ws : List Jvm.Cond} {as a0 : Array Value} {σ : Sg} {h h0 h' : Heap} {n0 : Nat} {Q Q' : Option Value → Heap → Sg → Prop} {ce sl ce' sl' pc pc' pc2 : Nat} {ls ls' : Array Slot} {st st' rest : List Value}
theorem Con.of_go (hpl : plainFor y = true) (hef : ∀ m, entryFrame m as maxL = mkF m 0 ls []) (H : ∀ κ : Cx, Amb κ l Z y code maxL ret rm h0 n0 Q → Go κ σ h0 0 0 0 ls []) : Con l Z y code maxL ret rm ws as σ h0 n0 Q := by
  refine MetFree.of_bodySF hpl hisR ?_
  intro p e s m args below meth c s₁ Bd hml0 hP hK
  obtain ⟨rfl, hZ, hh, hV, hO⟩ := hP
  have X0 : Stand p l e rm s m args below meth c s₁ [] 0 0 := Stand.of_body Bd
  have e0 : s₁.heap = h0 := by rw [← hh, Bd.state]; rfl
  obtain ⟨s₂, o, hst, hr, he, hq⟩ := H (p, l, e, rm, s, m, args, below, meth, c, Z, n0, Q) ⟨rfl, rfl, rfl, rfl, fun _ _ _ q => q, Bd.exec, hZ, findClass_of_methodNamed Bd.named, Bd.bytes, hml0, Bd.returns, BodyLoose.notSynchronized Bd, (name_of_methodNamed Bd.named Bd.method).1, hh⟩ s.vm h0.size s₁ [] X0 ((State.WarmedH.refl s).since _) (Nat.le_refl _) hV (hh ▸ hO) e0 (Fr.nil _)
  exact ⟨s₂, o, castTop (hef m) hst, hr, he, hq⟩
theorem Con.mono (M : Con l Z y code maxL ret rm ws as σ h0 n0 Q) (hq : ∀ v h σ, Q v h σ → Q' v h σ) : Con l Z y code maxL ret rm ws as σ h0 n0 Q' := by
  intro p e a1 a2 a3 s m args below a4 a5 a6 a7
  obtain ⟨n, o, b1, b2, b3, v, L, σ', b4, b5, b6⟩ := M p e a1 a2 a3 s m args below a4 a5 a6 a7
  exact ⟨n, o, b1, b2, b3, v, L, σ', b4, ⟨b5.1, b5.2.1, b5.2.2.1, hq _ _ _ b5.2.2.2⟩, b6⟩
theorem Go.pure (D : Amb κ l Z y code maxL ret rm h0 n0 Q)
    (f : ∀ (p : Program) (e : Env) (below : List Frame) (T t : State) (m : MethodId) (c : Code), p.tables.exec = Jvm.exec → c.code = code → At T m c below → Steps p.tables e below (T.setTop (mkF m pc' ls' st')) t → Steps p.tables e below (T.setTop (mkF m pc ls st)) t)
    (G : Go κ σ h ce sl pc' ls' st') : Go κ σ h ce sl pc ls st := by
  obtain ⟨p, l', e, R, s, m, args, below, meth, c, Z', n0', Q'⟩ := κ
  obtain ⟨rfl, rfl, rfl, rfl, hQ, hx, hZ, hown, hby, hml, hret, hlk, hnm, hh⟩ := D
  intro vm0 k0 T locs X hS hk V O eT N
  obtain ⟨s₂, o, h1, h2⟩ := G vm0 k0 T locs X hS hk V O eT N
  exact ⟨s₂, o, f p e below T s₂ m c hx hby X.here h1, h2⟩
/-- a step that asks the walk's standing, the heap as it was -/
theorem Go.calm (D : Amb κ l Z y code maxL ret rm h0 n0 Q)
    (f : ∀ (p : Program) (e : Env) (s : State) (m : MethodId) (args : Array Value) (below : List Frame) (meth : Method) (c : Code) (T : State) (locs : List Loc), p.tables.exec = Jvm.exec → Z.Warmed39 s.vm → s.vm.findClass y.cls = some m.cls → c.code = code → c.maxLocals = maxL → s.heap = h0 → Stand p l e rm s m args below meth c T locs ce sl → T.heap = h → ∃ T', Stand p l e rm s m args below meth c T' locs ce sl ∧ T'.heap = h ∧ ∀ t, Steps p.tables e below (T'.setTop (mkF m pc' ls' st')) t → Steps p.tables e below (T.setTop (mkF m pc ls st)) t)
    (G : Go κ σ h ce sl pc' ls' st') : Go κ σ h ce sl pc ls st := by
  obtain ⟨p, l', e, R, s, m, args, below, meth, c, Z', n0', Q'⟩ := κ
  obtain ⟨rfl, rfl, rfl, rfl, hQ, hx, hZ, hown, hby, hml, hret, hlk, hnm, hh⟩ := D
  intro vm0 k0 T locs X hS hk V O eT N
  obtain ⟨T', X', eT', k⟩ := f p e (s.setVm vm0) m args below meth c T locs hx (State.Warmed39.trans (t := s) hZ hS.1) (by show vm0.findClass _ = _; rw [hS.1.alike.findClass]; exact hown) hby hml hh X eT
  obtain ⟨s₂, o, h1, h2⟩ := G vm0 k0 T' locs X' hS hk V O eT' N
  exact ⟨s₂, o, k _ h1, h2⟩
/-- what a step may write -/
def Gw (h h' : Heap) (n0 : Nat) : Prop := ∃ ws : List Addr, Keep h h' ws ∧ ∀ x ∈ ws, n0 ≤ x
theorem Gw.ext (E : Ext h h') : Gw h h' n0 := ⟨[], (Keep.refl _ _).ext E, fun _ q => nomatch q⟩
theorem Gw.one {a : Addr} (K : Keep h h' [a]) (q : n0 ≤ a) : Gw h h' n0 := ⟨[a], K, fun x z => by cases List.mem_singleton.mp z; exact q⟩
/-- a step that turns the heap -/
theorem Go.turn (D : Amb κ l Z y code maxL ret rm h0 n0 Q) {P : Heap → Prop}
    (f : ∀ (p : Program) (e : Env) (s : State) (m : MethodId) (args : Array Value) (below : List Frame) (meth : Method) (c : Code) (T : State) (locs : List Loc), p.tables.exec = Jvm.exec → Z.Warmed39 s.vm → s.vm.findClass y.cls = some m.cls → c.code = code → c.maxLocals = maxL → meth.name = y.name → Stand p l e rm s m args below meth c T locs ce sl → T.heap = h → Fr n0 locs → ∃ T' locs' h', Stand p l e rm s m args below meth c T' locs' ce' sl' ∧ T'.heap = h' ∧ Fr n0 locs' ∧ Gw h h' n0 ∧ P h' ∧ ∀ t, Steps p.tables e below (T'.setTop (mkF m pc' ls' st')) t → Steps p.tables e below (T.setTop (mkF m pc ls st)) t)
    (G : ∀ h', P h' → Go κ σ h' ce' sl' pc' ls' st') : Go κ σ h ce sl pc ls st := by
  obtain ⟨p, l', e, R, s, m, args, below, meth, c, Z', n0', Q'⟩ := κ
  obtain ⟨rfl, rfl, rfl, rfl, hQ, hx, hZ, hown, hby, hml, hret, hlk, hnm, hh⟩ := D
  intro vm0 k0 T locs X hS hk V O eT N
  obtain ⟨T', locs', h', X', eT', N', ⟨ws, K, hws⟩, hP, k⟩ := f p e (s.setVm vm0) m args below meth c T locs hx (State.Warmed39.trans (t := s) hZ hS.1) (by show vm0.findClass _ = _; rw [hS.1.alike.findClass]; exact hown) hby hml hnm X eT N
  obtain ⟨s₂, o, h1, h2⟩ := G h' hP vm0 k0 T' locs' X' hS (Nat.le_trans hk K.1) V (O.keep K hws) eT' N'
  exact ⟨s₂, o, k _ h1, h2⟩
theorem sd_mono {p : Program} {e : Env} {R : Room} {s : State} {m : MethodId} {args : Array Value} {below : List Frame} {meth : Method} {c : Code} {T : State} {locs : List Loc} (X : Stand p l e R s m args below meth c T locs ce sl) (h1 : ce ≤ ce') (h2 : sl ≤ sl') : Stand p l e R s m args below meth c T locs ce' sl' :=
  { X with same := X.same.mono h1 h2 }
theorem Go.up (h1 : ce ≤ ce') (h2 : sl ≤ sl') (G : Go κ σ h ce' sl' pc ls st) : Go κ σ h ce sl pc ls st := by
  obtain ⟨p, l', e, R, s, m, args, below, meth, c, Z', n0', Q'⟩ := κ
  intro vm0 k0 T locs X hS hk V O eT N
  exact G vm0 k0 T locs (sd_mono X h1 h2) hS hk V O eT N
/-- the walk's hidden knowledge: the heap at the start stands -/
theorem Go.old (D : Amb κ l Z y code maxL ret rm h0 n0 Q) (G : Old Z n0 h → Go κ σ h ce sl pc ls st) : Go κ σ h ce sl pc ls st := by
  obtain ⟨p, l', e, R, s, m, args, below, meth, c, Z', n0', Q'⟩ := κ
  obtain ⟨rfl, rfl, rfl, rfl, hQ, hx, hZ, hown, hby, hml, hret, hlk, hnm, hh⟩ := D
  intro vm0 k0 T locs X hS hk V O eT N
  exact G O vm0 k0 T locs X hS hk V O eT N
theorem Go.getS (D : Amb κ l Z y code maxL ret rm h0 n0 Q) {idx : Nat} {n d O : String} {v : Value} (w : (Jvm.Cond.fieldLink y.cls idx O n d).before a0 Z = true) (hd : decode code pc = .ok (.getstatic idx, 3)) (hp : pc + 3 = pc') (F : Sta Z Z.heap O n d v) (G : Go κ σ h ce sl pc' ls (v :: st)) : Go κ σ h ce sl pc ls st := by
  subst hp
  refine Go.old D fun O' => ?_
  exact Go.calm D (fun p e s m args below meth c T locs hx hZ hown hby hml hh X eT => Jvm.RoadKit.getS (host := "") X hx hZ hown w Via.refl eT (F.ext O'.2) (g := mkF m pc ls st) rfl (hb hby hd)) G
/-! returns -/
theorem Go.ret1 (D : Amb κ l Z y code maxL ret rm h0 n0 Q) {i : Instr} {t : FieldType} {w : Value} (hret' : ret = some t) (hn : narrow t w = w)
    (hi : (i = .ireturn ∧ (t = .int ∨ t = .boolean ∨ t = .byte ∨ t = .char ∨ t = .short) ∧ ∃ z, w = .int z) ∨ (i = .lreturn ∧ t = .long ∧ ∃ z, w = .long z) ∨ (i = .dreturn ∧ t = .double ∧ ∃ z, w = .double z) ∨ (i = .freturn ∧ t = .float ∧ ∃ z, w = .float z) ∨ (i = .areturn ∧ t.isReference = true ∧ w.isRef = true))
    (hd : decode code pc = .ok (i, 1)) (hc : ce ≤ rm.cells) (hs : sl ≤ rm.slots) (q : Q (some w) h σ) : Go κ σ h ce sl pc ls (w :: rest) := by
  obtain ⟨p, l', e, R, s, m, args, below, meth, c, Z', n0', Q'⟩ := κ
  obtain ⟨rfl, rfl, rfl, rfl, hQ, hx, hZ, hown, hby, hml, hret, hlk, hnm, hh⟩ := D
  intro vm0 k0 T locs X hS hk V O eT N
  have hr2 : meth.sig.returnType = some t := hret.trans hret'
  obtain ⟨fs, hr, hrun, hended, hW⟩ := X.leaveW hS (by rw [eT]; exact hk) (v := some w) (fun h => by rw [hr2] at h; cases h) hlk
  refine ⟨_, _, retOut X hx hr2 hn hi (hb hby hd) hr, hrun, hended, _, _, σ, rfl, ⟨N, V.warm X.warmed, ?_, hQ _ _ _ ?_⟩, hW.1, hW.2.1, hW.2.2.1, hW.2.2.2.mono hc hs⟩
  · show Old _ _ T.heap
    rw [eT]; exact O
  · show Q (some w) T.heap σ
    rw [eT]; exact q
theorem Go.iret (D : Amb κ l Z y code maxL ret rm h0 n0 Q) {x : Int32} (hret' : ret = some .int) (hd : decode code pc = .ok (.ireturn, 1)) (hc : ce ≤ rm.cells) (hs : sl ≤ rm.slots) (q : Q (some (.int x)) h σ) : Go κ σ h ce sl pc ls (.int x :: rest) :=
  Go.ret1 D hret' rfl (Or.inl ⟨rfl, Or.inl rfl, _, rfl⟩) hd hc hs q
theorem Go.zret (D : Amb κ l Z y code maxL ret rm h0 n0 Q) {x : Int32} (hret' : ret = some .boolean) (hx : narrow .boolean (.int x) = .int x) (hd : decode code pc = .ok (.ireturn, 1)) (hc : ce ≤ rm.cells) (hs : sl ≤ rm.slots) (q : Q (some (.int x)) h σ) : Go κ σ h ce sl pc ls (.int x :: rest) :=
  Go.ret1 D hret' hx (Or.inl ⟨rfl, Or.inr (Or.inl rfl), _, rfl⟩) hd hc hs q
theorem Go.cret (D : Amb κ l Z y code maxL ret rm h0 n0 Q) {x : Int32} (hret' : ret = some .char) (hx : narrow .char (.int x) = .int x) (hd : decode code pc = .ok (.ireturn, 1)) (hc : ce ≤ rm.cells) (hs : sl ≤ rm.slots) (q : Q (some (.int x)) h σ) : Go κ σ h ce sl pc ls (.int x :: rest) :=
  Go.ret1 D hret' hx (Or.inl ⟨rfl, Or.inr (Or.inr (Or.inr (Or.inl rfl))), _, rfl⟩) hd hc hs q
theorem Go.bret (D : Amb κ l Z y code maxL ret rm h0 n0 Q) {x : Int32} (hret' : ret = some .byte) (hx : narrow .byte (.int x) = .int x) (hd : decode code pc = .ok (.ireturn, 1)) (hc : ce ≤ rm.cells) (hs : sl ≤ rm.slots) (q : Q (some (.int x)) h σ) : Go κ σ h ce sl pc ls (.int x :: rest) :=
  Go.ret1 D hret' hx (Or.inl ⟨rfl, Or.inr (Or.inr (Or.inl rfl)), _, rfl⟩) hd hc hs q
theorem Go.aret (D : Amb κ l Z y code maxL ret rm h0 n0 Q) {t : FieldType} {a : Addr} (hret' : ret = some t) (ht : t.isReference = true) (hn : narrow t (.ref a) = .ref a) (hd : decode code pc = .ok (.areturn, 1)) (hc : ce ≤ rm.cells) (hs : sl ≤ rm.slots) (q : Q (some (.ref a)) h σ) : Go κ σ h ce sl pc ls (.ref a :: rest) :=
  Go.ret1 D hret' hn (Or.inr (Or.inr (Or.inr (Or.inr ⟨rfl, ht, rfl⟩)))) hd hc hs q
theorem Go.lret (D : Amb κ l Z y code maxL ret rm h0 n0 Q) {x : Int64} (hret' : ret = some .long) (hd : decode code pc = .ok (.lreturn, 1)) (hc : ce ≤ rm.cells) (hs : sl ≤ rm.slots) (q : Q (some (.long x)) h σ) : Go κ σ h ce sl pc ls (.long x :: rest) :=
  Go.ret1 D hret' rfl (Or.inr (Or.inl ⟨rfl, rfl, _, rfl⟩)) hd hc hs q
theorem Go.vret (D : Amb κ l Z y code maxL ret rm h0 n0 Q) (hret' : ret = none) (hd : decode code pc = .ok (.return_, 1)) (hc : ce ≤ rm.cells) (hs : sl ≤ rm.slots) (q : Q none h σ) : Go κ σ h ce sl pc ls [] := by
  obtain ⟨p, l', e, R, s, m, args, below, meth, c, Z', n0', Q'⟩ := κ
  obtain ⟨rfl, rfl, rfl, rfl, hQ, hx, hZ, hown, hby, hml, hret, hlk, hnm, hh⟩ := D
  intro vm0 k0 T locs X hS hk V O eT N
  have hr2 : meth.sig.returnType = none := hret.trans hret'
  obtain ⟨fs, hr, hrun, hended, hW⟩ := X.leaveW hS (by rw [eT]; exact hk) (v := none) (fun _ => rfl) hlk
  refine ⟨_, _, X.returnOut hx hr2 (hb hby hd) hr, hrun, hended, _, _, σ, rfl, ⟨N, V.warm X.warmed, ?_, hQ _ _ _ ?_⟩, hW.1, hW.2.1, hW.2.2.1, hW.2.2.2.mono hc hs⟩
  · show Old _ _ T.heap
    rw [eT]; exact O
  · show Q none T.heap σ
    rw [eT]; exact q
/-! branches -/
def cy : ClassFile.Cond → Int32 → Int32 → Prop
  | .eq, x, y => x = y
  | .ne, x, y => ¬ x = y
  | .lt, x, y => x < y
  | .ge, x, y => ¬ x < y
  | .gt, x, y => y < x
  | .le, x, y => ¬ y < x
def cn : ClassFile.Cond → Int32 → Int32 → Prop
  | .eq, x, y => ¬ x = y
  | .ne, x, y => x = y
  | .lt, x, y => ¬ x < y
  | .ge, x, y => x < y
  | .gt, x, y => ¬ y < x
  | .le, x, y => y < x
theorem icmp_dec (cd : ClassFile.Cond) (x y : Int32) : (if_icmp.holds cd x y = true ∧ cy cd x y) ∨ (if_icmp.holds cd x y = false ∧ cn cd x y) := by
  cases cd <;> simp only [if_icmp.holds, cy, cn, beq_iff_eq, bne_iff_ne, ne_eq, decide_eq_true_eq, decide_eq_false_iff_not, beq_eq_false_iff_ne, bne_eq_false_iff_eq, Int32.not_lt, gt_iff_lt, ge_iff_le, Int32.not_le]
  · by_cases q : x = y <;> simp [q]
  · by_cases q : x = y <;> simp [q]
  · rcases Int32.lt_or_le x y with q | q <;> simp [q]
  · rcases Int32.lt_or_le x y with q | q <;> simp [q]
  · rcases Int32.lt_or_le y x with q | q <;> simp [q]
  · rcases Int32.lt_or_le y x with q | q <;> simp [q]
theorem ifc_dec (cd : ClassFile.Cond) (x : Int32) : (ifCond.holds cd x = true ∧ cy cd x 0) ∨ (ifCond.holds cd x = false ∧ cn cd x 0) := by
  cases cd <;> simp only [ifCond.holds, cy, cn, beq_iff_eq, bne_iff_ne, ne_eq, decide_eq_true_eq, decide_eq_false_iff_not, beq_eq_false_iff_ne, bne_eq_false_iff_eq, Int32.not_lt, gt_iff_lt, ge_iff_le, Int32.not_le]
  · by_cases q : x = 0 <;> simp [q]
  · by_cases q : x = 0 <;> simp [q]
  · rcases Int32.lt_or_le x 0 with q | q <;> simp [q]
  · rcases Int32.lt_or_le x 0 with q | q <;> simp [q]
  · rcases Int32.lt_or_le 0 x with q | q <;> simp [q]
  · rcases Int32.lt_or_le 0 x with q | q <;> simp [q]
theorem Go.ifc (D : Amb κ l Z y code maxL ret rm h0 n0 Q) {cd : ClassFile.Cond} {o : Int} {x : Int32} (hd : decode code pc = .ok (.ifCond cd o, 3)) (ho : 0 ≤ (pc : Int) + o) (hp : ((pc : Int) + o).toNat = pc') (hp2 : pc + 3 = pc2)
    (Gt : cy cd x 0 → Go κ σ h ce sl pc' ls rest) (Gf : cn cd x 0 → Go κ σ h ce sl pc2 ls rest) : Go κ σ h ce sl pc ls (.int x :: rest) := by
  subst hp2
  rcases ifc_dec cd x with ⟨q1, q2⟩ | ⟨q1, q2⟩
  · exact Go.pure D (fun p e below T t m c hx hby hT k => XS.ifYes hT hx rfl rfl (hb hby hd) rfl q1 ho hp k) (Gt q2)
  · exact Go.pure D (fun p e below T t m c hx hby hT k => XS.ifNo hT hx rfl (hb hby hd) rfl q1 k) (Gf q2)
theorem Go.icmp (D : Amb κ l Z y code maxL ret rm h0 n0 Q) {cd : ClassFile.Cond} {o : Int} {x z : Int32} (hd : decode code pc = .ok (.if_icmp cd o, 3)) (ho : 0 ≤ (pc : Int) + o) (hp : ((pc : Int) + o).toNat = pc') (hp2 : pc + 3 = pc2)
    (Gt : cy cd x z → Go κ σ h ce sl pc' ls rest) (Gf : cn cd x z → Go κ σ h ce sl pc2 ls rest) : Go κ σ h ce sl pc ls (.int z :: .int x :: rest) := by
  subst hp2
  rcases icmp_dec cd x z with ⟨q1, q2⟩ | ⟨q1, q2⟩
  · exact Go.pure D (fun p e below T t m c hx hby hT k => XS.icmpYes hT hx rfl rfl (hb hby hd) rfl q1 ho hp k) (Gt q2)
  · exact Go.pure D (fun p e below T t m c hx hby hT k => XS.icmpNo hT hx rfl (hb hby hd) rfl q1 k) (Gf q2)
theorem Go.iloadN (D : Amb κ l Z y code maxL ret rm h0 n0 Q) {k : Fin 4} {v : Int32} (hd : decode code pc = .ok (.iload_n k, 1)) (hp : pc + 1 = pc') (hl : ls[k.val]? = some (.val (.int v))) (G : Go κ σ h ce sl pc' ls (.int v :: st)) : Go κ σ h ce sl pc ls (st) := by
  subst hp
  exact Go.pure D (fun p e below T t m c hx hby hT k' => XS.iloadN hT hx rfl (hb hby hd) hl k') G
theorem Go.iload (D : Amb κ l Z y code maxL ret rm h0 n0 Q) {k : Nat} {v : Int32} (hd : decode code pc = .ok (.iload k, 2)) (hp : pc + 2 = pc') (hl : ls[k]? = some (.val (.int v))) (G : Go κ σ h ce sl pc' ls (.int v :: st)) : Go κ σ h ce sl pc ls (st) := by
  subst hp
  exact Go.pure D (fun p e below T t m c hx hby hT k' => XS.iload hT hx rfl (hb hby hd) hl k') G
theorem Go.aloadN (D : Amb κ l Z y code maxL ret rm h0 n0 Q) {k : Fin 4} {v : Value} (hd : decode code pc = .ok (.aload_n k, 1)) (hp : pc + 1 = pc') (hl : ls[k.val]? = some (.val v)) (hv : v.isRef = true) (G : Go κ σ h ce sl pc' ls (v :: st)) : Go κ σ h ce sl pc ls (st) := by
  subst hp
  exact Go.pure D (fun p e below T t m c hx hby hT k' => XS.aloadN hT hx rfl (hb hby hd) hl hv k') G
theorem Go.aload (D : Amb κ l Z y code maxL ret rm h0 n0 Q) {k : Nat} {v : Value} (hd : decode code pc = .ok (.aload k, 2)) (hp : pc + 2 = pc') (hl : ls[k]? = some (.val v)) (hv : v.isRef = true) (G : Go κ σ h ce sl pc' ls (v :: st)) : Go κ σ h ce sl pc ls (st) := by
  subst hp
  exact Go.pure D (fun p e below T t m c hx hby hT k' => XS.aload hT hx rfl (hb hby hd) hl hv k') G
theorem Go.lloadN (D : Amb κ l Z y code maxL ret rm h0 n0 Q) {k : Fin 4} {v : Int64} (hd : decode code pc = .ok (.lload_n k, 1)) (hp : pc + 1 = pc') (hl : ls[k.val]? = some (.val (.long v))) (G : Go κ σ h ce sl pc' ls (.long v :: st)) : Go κ σ h ce sl pc ls (st) := by
  subst hp
  exact Go.pure D (fun p e below T t m c hx hby hT k' => XS.lloadN hT hx rfl (hb hby hd) hl k') G
theorem Go.lload (D : Amb κ l Z y code maxL ret rm h0 n0 Q) {k : Nat} {v : Int64} (hd : decode code pc = .ok (.lload k, 2)) (hp : pc + 2 = pc') (hl : ls[k]? = some (.val (.long v))) (G : Go κ σ h ce sl pc' ls (.long v :: st)) : Go κ σ h ce sl pc ls (st) := by
  subst hp
  exact Go.pure D (fun p e below T t m c hx hby hT k' => XS.lload hT hx rfl (hb hby hd) hl k') G
theorem Go.iconst (D : Amb κ l Z y code maxL ret rm h0 n0 Q) {i : Int} {v : Int32} (hd : decode code pc = .ok (.iconst i, 1)) (hp : pc + 1 = pc') (hv : Int32.ofInt i = v) (G : Go κ σ h ce sl pc' ls (.int v :: st)) : Go κ σ h ce sl pc ls (st) := by
  subst hp hv
  exact Go.pure D (fun p e below T t m c hx hby hT k' => XS.iconst hT hx rfl (hb hby hd) k') G
theorem Go.bipush (D : Amb κ l Z y code maxL ret rm h0 n0 Q) {i : Int} {v : Int32} (hd : decode code pc = .ok (.bipush i, 2)) (hp : pc + 2 = pc') (hv : (Int8.ofInt i).toInt32 = v) (G : Go κ σ h ce sl pc' ls (.int v :: st)) : Go κ σ h ce sl pc ls (st) := by
  subst hp hv
  exact Go.pure D (fun p e below T t m c hx hby hT k' => XS.bipush hT hx rfl (hb hby hd) k') G
theorem Go.sipush (D : Amb κ l Z y code maxL ret rm h0 n0 Q) {i : Int} {v : Int32} (hd : decode code pc = .ok (.sipush i, 3)) (hp : pc + 3 = pc') (hv : (Int16.ofInt i).toInt32 = v) (G : Go κ σ h ce sl pc' ls (.int v :: st)) : Go κ σ h ce sl pc ls (st) := by
  subst hp hv
  exact Go.pure D (fun p e below T t m c hx hby hT k' => XS.sipush hT hx rfl (hb hby hd) k') G
theorem Go.lconst (D : Amb κ l Z y code maxL ret rm h0 n0 Q) {k : Fin 2} {v : Int64} (hd : decode code pc = .ok (.lconst k, 1)) (hp : pc + 1 = pc') (hv : Int64.ofNat k = v) (G : Go κ σ h ce sl pc' ls (.long v :: st)) : Go κ σ h ce sl pc ls (st) := by
  subst hp hv
  exact Go.pure D (fun p e below T t m c hx hby hT k' => XS.lconst hT hx rfl (hb hby hd) k') G
theorem Go.aconstNull (D : Amb κ l Z y code maxL ret rm h0 n0 Q)  (hd : decode code pc = .ok (.aconst_null, 1)) (hp : pc + 1 = pc')  (G : Go κ σ h ce sl pc' ls (.null :: st)) : Go κ σ h ce sl pc ls (st) := by
  subst hp
  exact Go.pure D (fun p e below T t m c hx hby hT k' => XS.aconstNull hT hx rfl (hb hby hd) k') G
theorem Go.iadd (D : Amb κ l Z y code maxL ret rm h0 n0 Q) {x z : Int32} (hd : decode code pc = .ok (.iadd, 1)) (hp : pc + 1 = pc')  (G : Go κ σ h ce sl pc' ls (.int (x + z) :: rest)) : Go κ σ h ce sl pc ls (.int z :: .int x :: rest) := by
  subst hp
  exact Go.pure D (fun p e below T t m c hx hby hT k' => XS.iadd hT hx rfl (hb hby hd) rfl k') G
theorem Go.isub (D : Amb κ l Z y code maxL ret rm h0 n0 Q) {x z : Int32} (hd : decode code pc = .ok (.isub, 1)) (hp : pc + 1 = pc')  (G : Go κ σ h ce sl pc' ls (.int (x - z) :: rest)) : Go κ σ h ce sl pc ls (.int z :: .int x :: rest) := by
  subst hp
  exact Go.pure D (fun p e below T t m c hx hby hT k' => XS.isub hT hx rfl (hb hby hd) rfl k') G
theorem Go.iand (D : Amb κ l Z y code maxL ret rm h0 n0 Q) {x z : Int32} (hd : decode code pc = .ok (.iand, 1)) (hp : pc + 1 = pc')  (G : Go κ σ h ce sl pc' ls (.int (x &&& z) :: rest)) : Go κ σ h ce sl pc ls (.int z :: .int x :: rest) := by
  subst hp
  exact Go.pure D (fun p e below T t m c hx hby hT k' => XS.iand hT hx rfl (hb hby hd) rfl k') G
theorem Go.imul (D : Amb κ l Z y code maxL ret rm h0 n0 Q) {x z : Int32} (hd : decode code pc = .ok (.imul, 1)) (hp : pc + 1 = pc')  (G : Go κ σ h ce sl pc' ls (.int (x * z) :: rest)) : Go κ σ h ce sl pc ls (.int z :: .int x :: rest) := by
  subst hp
  exact Go.pure D (fun p e below T t m c hx hby hT k' => XS.imul hT hx rfl (hb hby hd) rfl k') G
theorem Go.ixor (D : Amb κ l Z y code maxL ret rm h0 n0 Q) {x z : Int32} (hd : decode code pc = .ok (.ixor, 1)) (hp : pc + 1 = pc')  (G : Go κ σ h ce sl pc' ls (.int (x ^^^ z) :: rest)) : Go κ σ h ce sl pc ls (.int z :: .int x :: rest) := by
  subst hp
  exact Go.pure D (fun p e below T t m c hx hby hT k' => XS.ixor hT hx rfl (hb hby hd) rfl k') G
theorem Go.ior (D : Amb κ l Z y code maxL ret rm h0 n0 Q) {x z : Int32} (hd : decode code pc = .ok (.ior, 1)) (hp : pc + 1 = pc')  (G : Go κ σ h ce sl pc' ls (.int (x ||| z) :: rest)) : Go κ σ h ce sl pc ls (.int z :: .int x :: rest) := by
  subst hp
  exact Go.pure D (fun p e below T t m c hx hby hT k' => XS.ior hT hx rfl (hb hby hd) rfl k') G
theorem Go.ishl (D : Amb κ l Z y code maxL ret rm h0 n0 Q) {x z : Int32} (hd : decode code pc = .ok (.ishl, 1)) (hp : pc + 1 = pc')  (G : Go κ σ h ce sl pc' ls (.int (x <<< (z &&& 31)) :: rest)) : Go κ σ h ce sl pc ls (.int z :: .int x :: rest) := by
  subst hp
  exact Go.pure D (fun p e below T t m c hx hby hT k' => XS.ishl hT hx rfl (hb hby hd) rfl k') G
theorem Go.ishr (D : Amb κ l Z y code maxL ret rm h0 n0 Q) {x z : Int32} (hd : decode code pc = .ok (.ishr, 1)) (hp : pc + 1 = pc')  (G : Go κ σ h ce sl pc' ls (.int (x >>> (z &&& 31)) :: rest)) : Go κ σ h ce sl pc ls (.int z :: .int x :: rest) := by
  subst hp
  exact Go.pure D (fun p e below T t m c hx hby hT k' => XS.ishr hT hx rfl (hb hby hd) rfl k') G
theorem Go.iushr (D : Amb κ l Z y code maxL ret rm h0 n0 Q) {x z : Int32} (hd : decode code pc = .ok (.iushr, 1)) (hp : pc + 1 = pc')  (G : Go κ σ h ce sl pc' ls (.int (ushr x z) :: rest)) : Go κ σ h ce sl pc ls (.int z :: .int x :: rest) := by
  subst hp
  exact Go.pure D (fun p e below T t m c hx hby hT k' => XS.iushr hT hx rfl (hb hby hd) rfl k') G
theorem Go.ladd (D : Amb κ l Z y code maxL ret rm h0 n0 Q) {x z : Int64} (hd : decode code pc = .ok (.ladd, 1)) (hp : pc + 1 = pc')  (G : Go κ σ h ce sl pc' ls (.long (x + z) :: rest)) : Go κ σ h ce sl pc ls (.long z :: .long x :: rest) := by
  subst hp
  exact Go.pure D (fun p e below T t m c hx hby hT k' => XS.ladd hT hx rfl (hb hby hd) rfl k') G
theorem Go.lsub (D : Amb κ l Z y code maxL ret rm h0 n0 Q) {x z : Int64} (hd : decode code pc = .ok (.lsub, 1)) (hp : pc + 1 = pc')  (G : Go κ σ h ce sl pc' ls (.long (x - z) :: rest)) : Go κ σ h ce sl pc ls (.long z :: .long x :: rest) := by
  subst hp
  exact Go.pure D (fun p e below T t m c hx hby hT k' => XS.lsub hT hx rfl (hb hby hd) rfl k') G
theorem Go.lmul (D : Amb κ l Z y code maxL ret rm h0 n0 Q) {x z : Int64} (hd : decode code pc = .ok (.lmul, 1)) (hp : pc + 1 = pc')  (G : Go κ σ h ce sl pc' ls (.long (x * z) :: rest)) : Go κ σ h ce sl pc ls (.long z :: .long x :: rest) := by
  subst hp
  exact Go.pure D (fun p e below T t m c hx hby hT k' => XS.lmul hT hx rfl (hb hby hd) rfl k') G
theorem Go.land (D : Amb κ l Z y code maxL ret rm h0 n0 Q) {x z : Int64} (hd : decode code pc = .ok (.land, 1)) (hp : pc + 1 = pc')  (G : Go κ σ h ce sl pc' ls (.long (x &&& z) :: rest)) : Go κ σ h ce sl pc ls (.long z :: .long x :: rest) := by
  subst hp
  exact Go.pure D (fun p e below T t m c hx hby hT k' => XS.land hT hx rfl (hb hby hd) rfl k') G
theorem Go.lor (D : Amb κ l Z y code maxL ret rm h0 n0 Q) {x z : Int64} (hd : decode code pc = .ok (.lor, 1)) (hp : pc + 1 = pc')  (G : Go κ σ h ce sl pc' ls (.long (x ||| z) :: rest)) : Go κ σ h ce sl pc ls (.long z :: .long x :: rest) := by
  subst hp
  exact Go.pure D (fun p e below T t m c hx hby hT k' => XS.lor hT hx rfl (hb hby hd) rfl k') G
theorem Go.lxor (D : Amb κ l Z y code maxL ret rm h0 n0 Q) {x z : Int64} (hd : decode code pc = .ok (.lxor, 1)) (hp : pc + 1 = pc')  (G : Go κ σ h ce sl pc' ls (.long (x ^^^ z) :: rest)) : Go κ σ h ce sl pc ls (.long z :: .long x :: rest) := by
  subst hp
  exact Go.pure D (fun p e below T t m c hx hby hT k' => XS.lxor hT hx rfl (hb hby hd) rfl k') G
theorem Go.lshl (D : Amb κ l Z y code maxL ret rm h0 n0 Q) {x : Int64} {z : Int32} (hd : decode code pc = .ok (.lshl, 1)) (hp : pc + 1 = pc')  (G : Go κ σ h ce sl pc' ls (.long (x <<< (z &&& 63).toInt64) :: rest)) : Go κ σ h ce sl pc ls (.int z :: .long x :: rest) := by
  subst hp
  exact Go.pure D (fun p e below T t m c hx hby hT k' => XS.lshl hT hx rfl (hb hby hd) rfl k') G
theorem Go.lshr (D : Amb κ l Z y code maxL ret rm h0 n0 Q) {x : Int64} {z : Int32} (hd : decode code pc = .ok (.lshr, 1)) (hp : pc + 1 = pc')  (G : Go κ σ h ce sl pc' ls (.long (x >>> (z &&& 63).toInt64) :: rest)) : Go κ σ h ce sl pc ls (.int z :: .long x :: rest) := by
  subst hp
  exact Go.pure D (fun p e below T t m c hx hby hT k' => XS.lshr hT hx rfl (hb hby hd) rfl k') G
theorem Go.lushr (D : Amb κ l Z y code maxL ret rm h0 n0 Q) {x : Int64} {z : Int32} (hd : decode code pc = .ok (.lushr, 1)) (hp : pc + 1 = pc')  (G : Go κ σ h ce sl pc' ls (.long (ushrL x z) :: rest)) : Go κ σ h ce sl pc ls (.int z :: .long x :: rest) := by
  subst hp
  exact Go.pure D (fun p e below T t m c hx hby hT k' => XS.lushr hT hx rfl (hb hby hd) rfl k') G
theorem Go.ineg (D : Amb κ l Z y code maxL ret rm h0 n0 Q) {x : Int32} (hd : decode code pc = .ok (.ineg, 1)) (hp : pc + 1 = pc')  (G : Go κ σ h ce sl pc' ls (.int (-x) :: rest)) : Go κ σ h ce sl pc ls (.int x :: rest) := by
  subst hp
  exact Go.pure D (fun p e below T t m c hx hby hT k' => XS.ineg hT hx rfl (hb hby hd) rfl k') G
theorem Go.lneg (D : Amb κ l Z y code maxL ret rm h0 n0 Q) {x : Int64} (hd : decode code pc = .ok (.lneg, 1)) (hp : pc + 1 = pc')  (G : Go κ σ h ce sl pc' ls (.long (-x) :: rest)) : Go κ σ h ce sl pc ls (.long x :: rest) := by
  subst hp
  exact Go.pure D (fun p e below T t m c hx hby hT k' => XS.lneg hT hx rfl (hb hby hd) rfl k') G
theorem Go.i2l (D : Amb κ l Z y code maxL ret rm h0 n0 Q) {x : Int32} (hd : decode code pc = .ok (.i2l, 1)) (hp : pc + 1 = pc')  (G : Go κ σ h ce sl pc' ls (.long (x.toInt64) :: rest)) : Go κ σ h ce sl pc ls (.int x :: rest) := by
  subst hp
  exact Go.pure D (fun p e below T t m c hx hby hT k' => XS.i2l hT hx rfl (hb hby hd) rfl k') G
theorem Go.l2i (D : Amb κ l Z y code maxL ret rm h0 n0 Q) {x : Int64} (hd : decode code pc = .ok (.l2i, 1)) (hp : pc + 1 = pc')  (G : Go κ σ h ce sl pc' ls (.int (x.toInt32) :: rest)) : Go κ σ h ce sl pc ls (.long x :: rest) := by
  subst hp
  exact Go.pure D (fun p e below T t m c hx hby hT k' => XS.l2i hT hx rfl (hb hby hd) rfl k') G
theorem Go.i2b (D : Amb κ l Z y code maxL ret rm h0 n0 Q) {x : Int32} (hd : decode code pc = .ok (.i2b, 1)) (hp : pc + 1 = pc')  (G : Go κ σ h ce sl pc' ls (.int (x.toInt8.toInt32) :: rest)) : Go κ σ h ce sl pc ls (.int x :: rest) := by
  subst hp
  exact Go.pure D (fun p e below T t m c hx hby hT k' => XS.i2b hT hx rfl (hb hby hd) rfl k') G
theorem Go.i2c (D : Amb κ l Z y code maxL ret rm h0 n0 Q) {x : Int32} (hd : decode code pc = .ok (.i2c, 1)) (hp : pc + 1 = pc')  (G : Go κ σ h ce sl pc' ls (.int (x.toUInt32.toUInt16.toUInt32.toInt32) :: rest)) : Go κ σ h ce sl pc ls (.int x :: rest) := by
  subst hp
  exact Go.pure D (fun p e below T t m c hx hby hT k' => XS.i2c hT hx rfl (hb hby hd) rfl k') G
theorem Go.lcmp (D : Amb κ l Z y code maxL ret rm h0 n0 Q) {x z : Int64} (hd : decode code pc = .ok (.lcmp, 1)) (hp : pc + 1 = pc')  (G : Go κ σ h ce sl pc' ls (.int (cmpL x z) :: rest)) : Go κ σ h ce sl pc ls (.long z :: .long x :: rest) := by
  subst hp
  exact Go.pure D (fun p e below T t m c hx hby hT k' => XS.lcmp hT hx rfl (hb hby hd) rfl k') G
theorem Go.dup (D : Amb κ l Z y code maxL ret rm h0 n0 Q) {x : Value} (hd : decode code pc = .ok (.dup, 1)) (hp : pc + 1 = pc') (hc : x.category = 1) (G : Go κ σ h ce sl pc' ls (x :: x :: rest)) : Go κ σ h ce sl pc ls (x :: rest) := by
  subst hp
  exact Go.pure D (fun p e below T t m c hx hby hT k' => XS.dup hT hx rfl (hb hby hd) rfl hc k') G
theorem Go.pop (D : Amb κ l Z y code maxL ret rm h0 n0 Q) {x : Value} (hd : decode code pc = .ok (.pop, 1)) (hp : pc + 1 = pc') (hc : x.category = 1) (G : Go κ σ h ce sl pc' ls (rest)) : Go κ σ h ce sl pc ls (x :: rest) := by
  subst hp
  exact Go.pure D (fun p e below T t m c hx hby hT k' => XS.pop hT hx rfl (hb hby hd) rfl hc k') G
theorem Go.dupX1 (D : Amb κ l Z y code maxL ret rm h0 n0 Q) {x z : Value} (hd : decode code pc = .ok (.dup_x1, 1)) (hp : pc + 1 = pc') (hc : x.category = 1) (hc' : z.category = 1) (G : Go κ σ h ce sl pc' ls (x :: z :: x :: rest)) : Go κ σ h ce sl pc ls (x :: z :: rest) := by
  subst hp
  exact Go.pure D (fun p e below T t m c hx hby hT k' => XS.dupX1 hT hx rfl (hb hby hd) rfl hc hc' k') G
theorem Go.dup2 (D : Amb κ l Z y code maxL ret rm h0 n0 Q) {x z : Value} (hd : decode code pc = .ok (.dup2, 1)) (hp : pc + 1 = pc') (hc : x.category = 1) (hc' : z.category = 1) (G : Go κ σ h ce sl pc' ls (x :: z :: x :: z :: rest)) : Go κ σ h ce sl pc ls (x :: z :: rest) := by
  subst hp
  exact Go.pure D (fun p e below T t m c hx hby hT k' => XT.dup2 hT hx rfl (hb hby hd) rfl hc hc' k') G
theorem Go.dup2L (D : Amb κ l Z y code maxL ret rm h0 n0 Q) {x : Int64} (hd : decode code pc = .ok (.dup2, 1)) (hp : pc + 1 = pc')  (G : Go κ σ h ce sl pc' ls (.long x :: .long x :: rest)) : Go κ σ h ce sl pc ls (.long x :: rest) := by
  subst hp
  exact Go.pure D (fun p e below T t m c hx hby hT k' => XT.dup2L hT hx rfl (hb hby hd) rfl k') G
theorem Go.istoreN (D : Amb κ l Z y code maxL ret rm h0 n0 Q) {k : Fin 4} {x : Int32} (hd : decode code pc = .ok (.istore_n k, 1)) (hp : pc + 1 = pc') (hl : storeLocals ls k.val (.int x) = some ls') (G : Go κ σ h ce sl pc' ls' rest) : Go κ σ h ce sl pc ls (.int x :: rest) := by
  subst hp
  exact Go.pure D (fun p e below T t m c hx hby hT k' => XS.istoreN hT hx rfl (hb hby hd) rfl hl k') G
theorem Go.istore (D : Amb κ l Z y code maxL ret rm h0 n0 Q) {k : Nat} {x : Int32} (hd : decode code pc = .ok (.istore k, 2)) (hp : pc + 2 = pc') (hl : storeLocals ls k (.int x) = some ls') (G : Go κ σ h ce sl pc' ls' rest) : Go κ σ h ce sl pc ls (.int x :: rest) := by
  subst hp
  exact Go.pure D (fun p e below T t m c hx hby hT k' => XS.istore hT hx rfl (hb hby hd) rfl hl k') G
theorem Go.astoreN (D : Amb κ l Z y code maxL ret rm h0 n0 Q) {k : Fin 4} {x : Value} (hd : decode code pc = .ok (.astore_n k, 1)) (hp : pc + 1 = pc') (hv : x.isRef = true) (hl : storeLocals ls k.val x = some ls') (G : Go κ σ h ce sl pc' ls' rest) : Go κ σ h ce sl pc ls (x :: rest) := by
  subst hp
  exact Go.pure D (fun p e below T t m c hx hby hT k' => XS.astoreN hT hx rfl (hb hby hd) rfl hv hl k') G
theorem Go.astore (D : Amb κ l Z y code maxL ret rm h0 n0 Q) {k : Nat} {x : Value} (hd : decode code pc = .ok (.astore k, 2)) (hp : pc + 2 = pc') (hv : x.isRef = true) (hl : storeLocals ls k x = some ls') (G : Go κ σ h ce sl pc' ls' rest) : Go κ σ h ce sl pc ls (x :: rest) := by
  subst hp
  exact Go.pure D (fun p e below T t m c hx hby hT k' => XS.astore hT hx rfl (hb hby hd) rfl hv hl k') G
theorem Go.lstoreN (D : Amb κ l Z y code maxL ret rm h0 n0 Q) {k : Fin 4} {x : Int64} (hd : decode code pc = .ok (.lstore_n k, 1)) (hp : pc + 1 = pc') (hl : storeLocals ls k.val (.long x) = some ls') (G : Go κ σ h ce sl pc' ls' rest) : Go κ σ h ce sl pc ls (.long x :: rest) := by
  subst hp
  exact Go.pure D (fun p e below T t m c hx hby hT k' => XS.lstoreN hT hx rfl (hb hby hd) rfl hl k') G
theorem Go.lstore (D : Amb κ l Z y code maxL ret rm h0 n0 Q) {k : Nat} {x : Int64} (hd : decode code pc = .ok (.lstore k, 2)) (hp : pc + 2 = pc') (hl : storeLocals ls k (.long x) = some ls') (G : Go κ σ h ce sl pc' ls' rest) : Go κ σ h ce sl pc ls (.long x :: rest) := by
  subst hp
  exact Go.pure D (fun p e below T t m c hx hby hT k' => XS.lstore hT hx rfl (hb hby hd) rfl hl k') G
theorem Go.iinc (D : Amb κ l Z y code maxL ret rm h0 n0 Q) {k : Nat} {cst : Int} {x d : Int32} (hd : decode code pc = .ok (.iinc k cst, 3)) (hp : pc + 3 = pc') (hl : ls[k]? = some (.val (.int x))) (hv : Int32.ofInt cst = d) (hl' : storeLocals ls k (.int (x + d)) = some ls') (G : Go κ σ h ce sl pc' ls' st) : Go κ σ h ce sl pc ls st := by
  subst hp hv
  exact Go.pure D (fun p e below T t m c hx hby hT k' => XS.iinc hT hx rfl (hb hby hd) hl hl' k') G
theorem Go.istoreU (D : Amb κ l Z y code maxL ret rm h0 n0 Q) {k : Nat} {x : Int32} {o : Slot} (hd : decode code pc = .ok (.istore k, 2)) (hp : pc + 2 = pc') (hold : ls[k]? = some o) (ho : o = .unset ∨ ∃ w, o = .val w ∧ w.category = 1) (hl : ls.setIfInBounds k (.val (.int x)) = ls') (G : Go κ σ h ce sl pc' ls' rest) : Go κ σ h ce sl pc ls (.int x :: rest) := by
  subst hp hl
  exact Go.pure D (fun p e below T t m c hx hby hT k' => XS.istoreS hT hx rfl (hb hby hd) rfl hold ho k') G
theorem Go.istoreNU (D : Amb κ l Z y code maxL ret rm h0 n0 Q) {k : Fin 4} {x : Int32} {o : Slot} (hd : decode code pc = .ok (.istore_n k, 1)) (hp : pc + 1 = pc') (hold : ls[k.val]? = some o) (ho : o = .unset ∨ ∃ w, o = .val w ∧ w.category = 1) (hl : ls.setIfInBounds k.val (.val (.int x)) = ls') (G : Go κ σ h ce sl pc' ls' rest) : Go κ σ h ce sl pc ls (.int x :: rest) := by
  subst hp hl
  exact Go.pure D (fun p e below T t m c hx hby hT k' => XS.istoreNS hT hx rfl (hb hby hd) rfl hold ho k') G
theorem Go.astoreU (D : Amb κ l Z y code maxL ret rm h0 n0 Q) {k : Nat} {x : Value} {o : Slot} (hd : decode code pc = .ok (.astore k, 2)) (hp : pc + 2 = pc') (hv : x.isRef = true) (hc : x.category = 1) (hold : ls[k]? = some o) (ho : o = .unset ∨ ∃ w, o = .val w ∧ w.category = 1) (hl : ls.setIfInBounds k (.val x) = ls') (G : Go κ σ h ce sl pc' ls' rest) : Go κ σ h ce sl pc ls (x :: rest) := by
  subst hp hl
  exact Go.pure D (fun p e below T t m c hx hby hT k' => XS.astoreS hT hx rfl (hb hby hd) rfl hv hc hold ho k') G
theorem Go.goto (D : Amb κ l Z y code maxL ret rm h0 n0 Q) {o : Int} (hd : decode code pc = .ok (.goto o, 3)) (ho : 0 ≤ (pc : Int) + o) (hp : ((pc : Int) + o).toNat = pc') (G : Go κ σ h ce sl pc' ls st) : Go κ σ h ce sl pc ls st :=
  Go.pure D (fun p e below T t m c hx hby hT k' => XS.goto hT hx rfl rfl (hb hby hd) ho hp k') G
theorem Go.ifnullY (D : Amb κ l Z y code maxL ret rm h0 n0 Q) {o : Int} (hd : decode code pc = .ok (.ifnull o, 3)) (ho : 0 ≤ (pc : Int) + o) (hp : ((pc : Int) + o).toNat = pc') (G : Go κ σ h ce sl pc' ls rest) : Go κ σ h ce sl pc ls (.null :: rest) :=
  Go.pure D (fun p e below T t m c hx hby hT k' => XS.ifnullYes hT hx rfl rfl (hb hby hd) rfl ho hp k') G
theorem Go.ifnullN (D : Amb κ l Z y code maxL ret rm h0 n0 Q) {o : Int} {b : Addr} (hd : decode code pc = .ok (.ifnull o, 3)) (hp : pc + 3 = pc') (G : Go κ σ h ce sl pc' ls rest) : Go κ σ h ce sl pc ls (.ref b :: rest) := by
  subst hp
  exact Go.pure D (fun p e below T t m c hx hby hT k' => XS.ifnullNo hT hx rfl (hb hby hd) rfl k') G
theorem Go.ifnonnullY (D : Amb κ l Z y code maxL ret rm h0 n0 Q) {o : Int} {b : Addr} (hd : decode code pc = .ok (.ifnonnull o, 3)) (ho : 0 ≤ (pc : Int) + o) (hp : ((pc : Int) + o).toNat = pc') (G : Go κ σ h ce sl pc' ls rest) : Go κ σ h ce sl pc ls (.ref b :: rest) :=
  Go.pure D (fun p e below T t m c hx hby hT k' => XS.ifnonnullYes hT hx rfl rfl (hb hby hd) rfl ho hp k') G
theorem Go.ifnonnullN (D : Amb κ l Z y code maxL ret rm h0 n0 Q) {o : Int} (hd : decode code pc = .ok (.ifnonnull o, 3)) (hp : pc + 3 = pc') (G : Go κ σ h ce sl pc' ls rest) : Go κ σ h ce sl pc ls (.null :: rest) := by
  subst hp
  exact Go.pure D (fun p e below T t m c hx hby hT k' => XS.ifnonnullNo hT hx rfl (hb hby hd) rfl k') G
theorem Go.irem (D : Amb κ l Z y code maxL ret rm h0 n0 Q) {x z : Int32} (hd : decode code pc = .ok (.irem, 1)) (hp : pc + 1 = pc') (hz : z ≠ 0) (G : Go κ σ h ce sl pc' ls (.int (x % z) :: rest)) : Go κ σ h ce sl pc ls (.int z :: .int x :: rest) := by
  subst hp
  exact Go.calm D (fun p e s m args below meth c T locs hx hZ hown hby hml hh X eT => ⟨T, X, eT, fun t k => iremM X hx rfl (hb hby hd) rfl hz k⟩) G
theorem Go.ldcInt (D : Amb κ l Z y code maxL ret rm h0 n0 Q) {idx : Nat} {v : Int32} (w : (Jvm.Cond.constant y.cls idx v).before a0 Z = true) (hd : decode code pc = .ok (.ldc idx, 2)) (hp : pc + 2 = pc') (G : Go κ σ h ce sl pc' ls (.int v :: st)) : Go κ σ h ce sl pc ls st := by
  subst hp
  exact Go.calm D (fun p e s m args below meth c T locs hx hZ hown hby hml hh X eT => ⟨T, X, eT, X.ldcInt hx hown (mvT hZ w) (g := mkF m pc ls st) rfl (hb hby hd)⟩) G
theorem Go.ldc2Long (D : Amb κ l Z y code maxL ret rm h0 n0 Q) {idx : Nat} {v : Int64} (w : (Jvm.Cond.constantLong y.cls idx v).before a0 Z = true) (hd : decode code pc = .ok (.ldc2_w idx, 3)) (hp : pc + 3 = pc') (G : Go κ σ h ce sl pc' ls (.long v :: st)) : Go κ σ h ce sl pc ls st := by
  subst hp
  exact Go.calm D (fun p e s m args below meth c T locs hx hZ hown hby hml hh X eT => ⟨T, X, eT, X.ldc2Long hx hown (mvT hZ w) (g := mkF m pc ls st) rfl (hb hby hd)⟩) G
/-! fields -/
theorem Go.getF (D : Amb κ l Z y code maxL ret rm h0 n0 Q) {idx : Nat} {n d : String} {a : Addr} {v : Value} {O : String} (w : (Jvm.Cond.fieldLink y.cls idx O n d).before a0 Z = true) (hd : decode code pc = .ok (.getfield idx, 3)) (hp : pc + 3 = pc') (F : Fld Z h a O n d v) (G : Go κ σ h ce sl pc' ls (v :: rest)) : Go κ σ h ce sl pc ls (.ref a :: rest) := by
  subst hp
  exact Go.calm D (fun p e s m args below meth c T locs hx hZ hown hby hml hh X eT => Jvm.RoadKit.getF X hx hZ hown (host := "") (Or.inl w) Via.refl eT F (g := mkF m pc ls (.ref a :: rest)) rfl rfl (hb hby hd)) G
theorem Go.getFN (D : Amb κ l Z y code maxL ret rm h0 n0 Q) {idx : Nat} {n d host : String} {a : Addr} {v : Value} {O : String} (w : (Jvm.Cond.fieldLinkNest y.cls idx O n d host).before a0 Z = true) (hd : decode code pc = .ok (.getfield idx, 3)) (hp : pc + 3 = pc') (F : Fld Z h a O n d v) (G : Go κ σ h ce sl pc' ls (v :: rest)) : Go κ σ h ce sl pc ls (.ref a :: rest) := by
  subst hp
  exact Go.calm D (fun p e s m args below meth c T locs hx hZ hown hby hml hh X eT => Jvm.RoadKit.getF X hx hZ hown (host := host) (Or.inr w) Via.refl eT F (g := mkF m pc ls (.ref a :: rest)) rfl rfl (hb hby hd)) G
theorem Go.putF (D : Amb κ l Z y code maxL ret rm h0 n0 Q) {idx kk : Nat} {n d C O : String} {ty : FieldType} {a : Addr} {v old : Value} (w : (Jvm.Cond.fieldLink y.cls idx O n d).before a0 Z = true) (hd : decode code pc = .ok (.putfield idx, 3)) (hp : pc + 3 = pc') (F : Fld Z h a O n d old) (E : Exa Z h a C)
    (L : (Jvm.Cond.lays C O n d).before a0 Z = true ∨ ((Jvm.Cond.laysFinal C O n d).before a0 Z = true ∧ y.cls = O ∧ y.name = "<init>")) (wi : (Jvm.Cond.instantiable C kk).before a0 Z = true) (hty : parseFieldDescriptor d = some ty) (hn : narrow ty v = v) (hf : fits ty v = true) (ge : n0 ≤ a)
    (G : ∀ h', Wr h h' a (Jvm.RoadKit.slotOf Z O n d) v → Go κ σ h' ce sl pc' ls rest) : Go κ σ h ce sl pc ls (v :: .ref a :: rest) := by
  subst hp
  refine Go.turn D (fun p e s m args below meth c T locs hx hZ hown hby hml hnm X eT N => ?_) G
  obtain ⟨T', h1, X', e', W, k⟩ := Jvm.RoadKit.putF X hx hZ hown (host := "") (Or.inl w) Via.refl eT F E (L.imp id fun q => ⟨q.1, q.2.1, hnm.trans q.2.2⟩) wi hty hn hf (g := mkF m pc ls (v :: .ref a :: rest)) rfl rfl (hb hby hd)
  exact ⟨T', _, h1, X', e', Fr.snoc X' N ge, Gw.one (Keep.of_wr W) ge, W, k⟩
/-! new -/
theorem Go.newO (D : Amb κ l Z y code maxL ret rm h0 n0 Q) {idx n : Nat} {C : String} (w : (Jvm.Cond.classLink y.cls idx C).before a0 Z = true) (wi : (Jvm.Cond.instantiable C n).before a0 Z = true) (wz : (Jvm.Cond.initialized C).before a0 Z = true) (hd : decode code pc = .ok (.new idx, 3)) (hp : pc + 3 = pc') (hce : ce + 1 = ce') (hsl : sl + n = sl') (hc : ce' ≤ rm.cells) (hs : sl' ≤ rm.slots)
    (G : ∀ h' a, a = h.size → Ext h h' → Exa Z h' a C → (∀ {O nm d : String} {ty : FieldType}, Laid Z a0 C O nm d → parseFieldDescriptor d = some ty → Fld Z h' a O nm d (defaultValue ty)) → Go κ σ h' ce' sl' pc' ls (.ref a :: st)) : Go κ σ h ce sl pc ls st := by
  subst hp hce hsl
  refine Go.turn D (P := fun h' => Ext h h' ∧ Exa Z h' h.size C ∧ (∀ {O nm d : String} {ty : FieldType}, Laid Z a0 C O nm d → parseFieldDescriptor d = some ty → Fld Z h' h.size O nm d (defaultValue ty))) (fun p e s m args below meth c T locs hx hZ hown hby hml hnm X eT N => ?_) (fun h' q => G h' _ rfl q.1 q.2.1 q.2.2)
  obtain ⟨T', h1, X', e', E, A, F, -, k⟩ := Jvm.RoadKit.newO X hx hZ hown w wi wz eT (g := mkF m pc ls st) rfl (hb hby hd) hc hs
  exact ⟨T', _, h1, X', e', N, Gw.ext E, ⟨E, A, F⟩, k⟩
theorem Go.newP (D : Amb κ l Z y code maxL ret rm h0 n0 Q) {aty : ArrayType} {n : Int32} {cap : Nat} (w : (Jvm.Cond.arrayClass (newarray.typeOf aty)).before a0 Z = true) (hd : decode code pc = .ok (.newarray aty, 2)) (hp : pc + 2 = pc') (hn : ¬ n < 0) (hcap : n.toNatClampNeg ≤ cap) (hb' : cap * 8 ≤ 536870912) (hce : ce + 1 = ce') (hsl : sl + cap = sl') (hc : ce' ≤ rm.cells) (hs : sl' ≤ rm.slots)
    (G : ∀ h' a k, a = h.size → Ext h h' → Arv Z h' a k (newarray.typeOf aty) n [] (defaultValue (newarray.typeOf aty)) → Go κ σ h' ce' sl' pc' ls (.ref a :: rest)) : Go κ σ h ce sl pc ls (.int n :: rest) := by
  subst hp hce hsl
  refine Go.turn D (P := fun h' => ∃ k, Ext h h' ∧ Arv Z h' h.size k (newarray.typeOf aty) n [] (defaultValue (newarray.typeOf aty))) (fun p e s m args below meth c T locs hx hZ hown hby hml hnm X eT N => ?_) (fun h' q => by obtain ⟨k, q1, q2⟩ := q; exact G h' _ k rfl q1 q2)
  obtain ⟨T', h1, k, X', e', E, A, st'⟩ := Jvm.RoadKit.newP X hx hZ w eT (g := mkF m pc ls (.int n :: rest)) rfl (hb hby hd) rfl hn hcap hb' hc hs
  exact ⟨T', _, h1, X', e', N, Gw.ext E, ⟨k, E, Arv.new A hn⟩, st'⟩
theorem Go.newPE (D : Amb κ l Z y code maxL ret rm h0 n0 Q) {aty : ArrayType} {n : Int32} {cap : Nat} {ad : String} (w : (Jvm.Cond.arrayClass (newarray.typeOf aty)).before a0 Z = true) (hd : decode code pc = .ok (.newarray aty, 2)) (hp : pc + 2 = pc') (hn : ¬ n < 0) (hcap : n.toNatClampNeg ≤ cap) (hb' : cap * 8 ≤ 536870912) (had : "[" ++ (newarray.typeOf aty).toString = ad) (hce : ce + 1 = ce') (hsl : sl + cap = sl') (hc : ce' ≤ rm.cells) (hs : sl' ≤ rm.slots)
    (G : ∀ h' a k, a = h.size → Ext h h' → Arv Z h' a k (newarray.typeOf aty) n [] (defaultValue (newarray.typeOf aty)) → Exa Z h' a ad → Go κ σ h' ce' sl' pc' ls (.ref a :: rest)) : Go κ σ h ce sl pc ls (.int n :: rest) := by
  subst hp hce hsl
  refine Go.turn D (P := fun h' => ∃ k, Ext h h' ∧ Arv Z h' h.size k (newarray.typeOf aty) n [] (defaultValue (newarray.typeOf aty)) ∧ Exa Z h' h.size ad) (fun p e s m args below meth c T locs hx hZ hown hby hml hnm X eT N => ?_) (fun h' q => by obtain ⟨k, q1, q2, q3⟩ := q; exact G h' _ k rfl q1 q2 q3)
  obtain ⟨T', h1, k, X', e', E, A, XA, st'⟩ := Jvm.RoadKit.newPE X hx hZ w eT (g := mkF m pc ls (.int n :: rest)) rfl (hb hby hd) rfl hn hcap hb' hc hs had
  exact ⟨T', _, h1, X', e', N, Gw.ext E, ⟨k, E, Arv.new A hn, XA⟩, st'⟩
theorem Go.cloneV (D : Amb κ l Z y code maxL ret rm h0 n0 Q) {idx : Nat} {ad : String} {a : Addr} {k : ClassId} {ty : FieldType} {n : Int32} {vs : List Value} {dv : Value} {cap W : Nat} (w1 : (Jvm.Cond.methodLink y.cls idx ⟨ad, "clone", "()Ljava/lang/Object;"⟩).before a0 Z = true) (w2 : (Jvm.Cond.sameMethod ad "java/lang/Object" "clone" "()Ljava/lang/Object;").before a0 Z = true) (w3 : (Jvm.Cond.native ⟨"java/lang/Object", "clone", "()Ljava/lang/Object;"⟩).before a0 Z = true)
    (w4 : (Jvm.Cond.instanceMethod ⟨"java/lang/Object", "clone", "()Ljava/lang/Object;"⟩).before a0 Z = true) (w5 : (Jvm.Cond.selects ad ⟨ad, "clone", "()Ljava/lang/Object;"⟩ ⟨"java/lang/Object", "clone", "()Ljava/lang/Object;"⟩).before a0 Z = true) (w6 : (Jvm.Cond.castable ad "java/lang/Cloneable").before a0 Z = true)
    (hd : decode code pc = .ok (.invokevirtual idx, 3)) (hp : pc + 3 = pc') (hls : ls.size = maxL) (A : Arv Z h a k ty n vs dv) (E : Exa Z h a ad) (hf : 1 ≤ rm.frames) (hW : (rest.map fun v => v.category).sum = W) (hl : W + 14 ≤ rm.locals) (hcap : n.toNatClampNeg ≤ cap) (hce : ce + 1 = ce') (hsl : sl + cap = sl') (hc : ce' ≤ rm.cells) (hs : sl' ≤ rm.slots)
    (G : ∀ h' b, b = h.size → Ext h h' → Arv Z h' b k ty n vs dv → Exa Z h' b ad → Go κ σ h' ce' sl' pc' ls (.ref b :: rest)) : Go κ σ h ce sl pc ls (.ref a :: rest) := by
  subst hp hce hsl
  refine Go.turn D (P := fun h' => Ext h h' ∧ Arv Z h' h.size k ty n vs dv ∧ Exa Z h' h.size ad) (fun p e s m args below meth c T locs hx hZ hown hby hml hnm X eT N => ?_) (fun h' q => G h' _ rfl q.1 q.2.1 q.2.2)
  obtain ⟨T', h1, X', e', E', A', XA, st'⟩ := Jvm.RoadKit.cloneH X hx hZ hown w1 w2 w3 w4 w5 w6 eT A.arh E (g := mkF m pc ls (.ref a :: rest)) rfl (hls.trans hml.symm) rfl (hb hby hd) hf (W := W) (by show 2 * 0 + _ ≤ _; rw [hW]; omega) hl hcap hc hs
  exact ⟨T', _, h1, X', e', N, Gw.ext E', ⟨E', A', XA⟩, st'⟩
theorem Go.newRE (D : Amb κ l Z y code maxL ret rm h0 n0 Q) {idx : Nat} {C : String} {n : Int32} {cap : Nat} {ad : String} (w1 : (Jvm.Cond.classLink y.cls idx C).before a0 Z = true) (w2 : (Jvm.Cond.arrayOver (.object C)).before a0 Z = true) (hd : decode code pc = .ok (.anewarray idx, 3)) (hp : pc + 3 = pc') (hn : ¬ n < 0) (hcap : n.toNatClampNeg ≤ cap) (hb' : cap * 8 ≤ 536870912) (had : "[" ++ (FieldType.object C).toString = ad) (hce : ce + 1 = ce') (hsl : sl + cap = sl') (hc : ce' ≤ rm.cells) (hs : sl' ≤ rm.slots)
    (G : ∀ h' a k, a = h.size → Ext h h' → Arv Z h' a k (.object C) n [] .null → Exa Z h' a ad → Ovr Z k C → Go κ σ h' ce' sl' pc' ls (.ref a :: rest)) : Go κ σ h ce sl pc ls (.int n :: rest) := by
  subst hp hce hsl
  refine Go.turn D (P := fun h' => ∃ k, Ext h h' ∧ Arv Z h' h.size k (.object C) n [] .null ∧ Exa Z h' h.size ad ∧ Ovr Z k C) (fun p e s m args below meth c T locs hx hZ hown hby hml hnm X eT N => ?_) (fun h' q => by obtain ⟨k, q1, q2, q3, q4⟩ := q; exact G h' _ k rfl q1 q2 q3 q4)
  obtain ⟨T', h1, k, X', e', E, A, XA, O, st'⟩ := Jvm.RoadKit.newRE X hx hZ hown w1 w2 eT (g := mkF m pc ls (.int n :: rest)) rfl (hb hby hd) rfl hn hcap hb' hc hs had
  exact ⟨T', _, h1, X', e', N, Gw.ext E, ⟨k, E, Arv.new A hn, XA, O⟩, st'⟩
theorem Go.lswHit (D : Amb κ l Z y code maxL ret rm h0 n0 Q) {k : Int32} {dflt a off : Int} {pairs : Array (Int × Int)} {len : Nat} (hd : decode code pc = .ok (.lookupswitch dflt pairs, len)) (hs : (pairs.toList.zip (pairs.toList.drop 1)).all (fun (a, next) => a.1 < next.1) = true) (hf : pairs.find? (·.1 == k.toInt) = some (a, off)) (ho : 0 ≤ (pc : Int) + off) (hp : ((pc : Int) + off).toNat = pc') (G : Go κ σ h ce sl pc' ls rest) : Go κ σ h ce sl pc ls (.int k :: rest) := by
  subst hp
  exact Go.calm D (fun p e s m args below meth c T locs hx hZ hown hby hml hh X eT => ⟨T, X, eT, fun t q => X.lookupswitchHit hx (g := mkF m pc ls (.int k :: rest)) rfl rfl (hb hby hd) hs hf ho t q⟩) G
theorem Go.lswMiss (D : Amb κ l Z y code maxL ret rm h0 n0 Q) {k : Int32} {dflt : Int} {pairs : Array (Int × Int)} {len : Nat} (hd : decode code pc = .ok (.lookupswitch dflt pairs, len)) (hs : (pairs.toList.zip (pairs.toList.drop 1)).all (fun (a, next) => a.1 < next.1) = true) (hf : pairs.find? (·.1 == k.toInt) = none) (ho : 0 ≤ (pc : Int) + dflt) (hp : ((pc : Int) + dflt).toNat = pc') (G : Go κ σ h ce sl pc' ls rest) : Go κ σ h ce sl pc ls (.int k :: rest) := by
  subst hp
  exact Go.calm D (fun p e s m args below meth c T locs hx hZ hown hby hml hh X eT => ⟨T, X, eT, fun t q => X.lookupswitchMiss hx (g := mkF m pc ls (.int k :: rest)) rfl rfl (hb hby hd) hs hf ho t q⟩) G
theorem Go.tswIn (D : Amb κ l Z y code maxL ret rm h0 n0 Q) {k : Int32} {dflt low high off : Int} {offs : Array Int} {len : Nat} (hd : decode code pc = .ok (.tableswitch dflt low high offs, len)) (hin : ¬ (k.toInt < low ∨ k.toInt > high)) (hf : offs[(k.toInt - low).toNat]? = some off) (ho : 0 ≤ (pc : Int) + off) (hp : ((pc : Int) + off).toNat = pc') (G : Go κ σ h ce sl pc' ls rest) : Go κ σ h ce sl pc ls (.int k :: rest) := by
  subst hp
  exact Go.calm D (fun p e s m args below meth c T locs hx hZ hown hby hml hh X eT => ⟨T, X, eT, fun t q => X.tableswitchIn hx (g := mkF m pc ls (.int k :: rest)) rfl rfl (hb hby hd) hin hf ho t q⟩) G
theorem Go.initO (D : Amb κ l Z y code maxL ret rm h0 n0 Q) {idx : Nat} {a : Addr} (w1 : (Jvm.Cond.methodLink y.cls idx Lib.objectInit).before a0 Z = true) (w2 : (Jvm.Cond.instanceMethod Lib.objectInit).before a0 Z = true) (w3 : (Jvm.Cond.code Lib.objectInit ⟨#[0xb1]⟩ 1 none).before a0 Z = true) (hd : decode code pc = .ok (.invokespecial idx, 3)) (hp : pc + 3 = pc') (hls : ls.size = maxL) (hf : 1 ≤ rm.frames) {W : Nat} (hW : (rest.map fun v => v.category).sum = W) (hl : W + 12 ≤ rm.locals)
    (G : Go κ σ h ce sl pc' ls rest) : Go κ σ h ce sl pc ls (.ref a :: rest) := by
  subst hp
  exact Go.calm D (fun p e s m args below meth c T locs hx hZ hown hby hml hh X eT => Jvm.RoadKit.initO X hx hZ hown w1 w2 w3 eT (g := mkF m pc ls (.ref a :: rest)) rfl (hls.trans hml.symm) rfl (hb hby hd) hf (W := W) (by show 2 * 0 + _ ≤ _; rw [hW]; omega) hl) G
/-! arrays -/
section Arrays
variable {a : Addr} {k : ClassId} {n j : Int32} {vs : List Value} {dv v : Value}
theorem Go.alen (D : Amb κ l Z y code maxL ret rm h0 n0 Q) {ty : FieldType} (hd : decode code pc = .ok (.arraylength, 1)) (hp : pc + 1 = pc') (A : Arv Z h a k ty n vs dv) (G : Go κ σ h ce sl pc' ls (.int n :: rest)) : Go κ σ h ce sl pc ls (.ref a :: rest) := by
  subst hp
  obtain ⟨c', A1, A2, A3, A4, A5, A6⟩ := A
  refine Go.calm D (fun p e s m args below meth c T locs hx hZ hown hby hml hh X eT => ⟨T, X, eT, fun t q => ?_⟩) G
  refine X.arraylength hx (by rw [eT]; exact A1.1) (State.isArrayOf_alike hZ.alike A1.2.1) (g := mkF m pc ls (.ref a :: rest)) rfl rfl (hb hby hd) t ?_
  rw [len_of A3 A4]; exact q
theorem Go.iaload (D : Amb κ l Z y code maxL ret rm h0 n0 Q) (hd : decode code pc = .ok (.iaload, 1)) (hp : pc + 1 = pc') (A : Arv Z h a k .int n vs dv) (h1 : ¬ j < 0) (h2 : j < n) (hv : vs.getD j.toNatClampNeg dv = v) (G : Go κ σ h ce sl pc' ls (v :: rest)) : Go κ σ h ce sl pc ls (.int j :: .ref a :: rest) := by
  subst hp
  obtain ⟨c', A1, A2, A3, A4, A5, A6, A7⟩ := A.inb h1 h2
  exact Go.calm D (fun p e s m args below meth c T locs hx hZ hown hby hml hh X eT => ⟨T, X, eT, fun t q => X.iaload hx (by rw [eT]; exact A1.1) (State.isArrayOf_alike hZ.alike A1.2.1) A1.2.2 A7 (A5.at A7 hv) (g := mkF m pc ls (.int j :: .ref a :: rest)) rfl rfl (hb hby hd) t q⟩) G
theorem Go.caload (D : Amb κ l Z y code maxL ret rm h0 n0 Q) (hd : decode code pc = .ok (.caload, 1)) (hp : pc + 1 = pc') (A : Arv Z h a k .char n vs dv) (h1 : ¬ j < 0) (h2 : j < n) (hv : vs.getD j.toNatClampNeg dv = v) (G : Go κ σ h ce sl pc' ls (v :: rest)) : Go κ σ h ce sl pc ls (.int j :: .ref a :: rest) := by
  subst hp
  obtain ⟨c', A1, A2, A3, A4, A5, A6, A7⟩ := A.inb h1 h2
  exact Go.calm D (fun p e s m args below meth c T locs hx hZ hown hby hml hh X eT => ⟨T, X, eT, fun t q => X.caload hx (by rw [eT]; exact A1.1) (State.isArrayOf_alike hZ.alike A1.2.1) A1.2.2 A7 (A5.at A7 hv) (g := mkF m pc ls (.int j :: .ref a :: rest)) rfl rfl (hb hby hd) t q⟩) G
theorem Go.baload (D : Amb κ l Z y code maxL ret rm h0 n0 Q) (hd : decode code pc = .ok (.baload, 1)) (hp : pc + 1 = pc') (A : Arv Z h a k .byte n vs dv) (h1 : ¬ j < 0) (h2 : j < n) (hv : vs.getD j.toNatClampNeg dv = v) (G : Go κ σ h ce sl pc' ls (v :: rest)) : Go κ σ h ce sl pc ls (.int j :: .ref a :: rest) := by
  subst hp
  obtain ⟨c', A1, A2, A3, A4, A5, A6, A7⟩ := A.inb h1 h2
  exact Go.calm D (fun p e s m args below meth c T locs hx hZ hown hby hml hh X eT => ⟨T, X, eT, fun t q => X.baloadBytes hx (by rw [eT]; exact A1.1) (State.isArrayOf_alike hZ.alike A1.2.1) A1.2.2 A7 (A5.at A7 hv) (g := mkF m pc ls (.int j :: .ref a :: rest)) rfl rfl (hb hby hd) t q⟩) G
theorem Go.aaload (D : Amb κ l Z y code maxL ret rm h0 n0 Q) {C : String} (hd : decode code pc = .ok (.aaload, 1)) (hp : pc + 1 = pc') (A : Arv Z h a k (.object C) n vs dv) (h1 : ¬ j < 0) (h2 : j < n) (hv : vs.getD j.toNatClampNeg dv = v) (G : Go κ σ h ce sl pc' ls (v :: rest)) : Go κ σ h ce sl pc ls (.int j :: .ref a :: rest) := by
  subst hp
  obtain ⟨c', A1, A2, A3, A4, A5, A6, A7⟩ := A.inb h1 h2
  exact Go.calm D (fun p e s m args below meth c T locs hx hZ hown hby hml hh X eT => ⟨T, X, eT, fun t q => X.aaload hx (by rw [eT]; exact A1.1) (State.isArrayOf_alike hZ.alike A1.2.1) rfl A1.2.2 A7 (A5.at A7 hv) (g := mkF m pc ls (.int j :: .ref a :: rest)) rfl rfl (hb hby hd) t q⟩) G
theorem Go.aastore (D : Amb κ l Z y code maxL ret rm h0 n0 Q) {C : String} {b : Addr} {i : Nat} (hd : decode code pc = .ok (.aastore, 1)) (hp : pc + 1 = pc') (A : Arv Z h a k (.object C) n vs dv) (O : Ovr Z k C) (I : Ins Z h b C true) (h1 : ¬ j < 0) (h2 : j < n) (hj : j.toNatClampNeg = i) (hi : i < vs.length) (ge : n0 ≤ a)
    (G : ∀ h', Keep h h' [a] → Arv Z h' a k (.object C) n (vs.set i (.ref b)) dv → Go κ σ h' ce sl pc' ls rest) : Go κ σ h ce sl pc ls (.ref b :: .int j :: .ref a :: rest) := by
  subst hp
  obtain ⟨c', A1, A2, A3, A4, A5, A6, A7⟩ := A.inb h1 h2
  refine Go.turn D (P := fun h' => Keep h h' [a] ∧ Arv Z h' a k (.object C) n (vs.set i (.ref b)) dv) (fun p e s m args below meth c T locs hx hZ hown hby hml hnm X eT N => ?_) (fun h' q => G h' q.1 q.2)
  obtain ⟨T', h1, X', e', W, q⟩ := Jvm.RoadKit.stR X hx hZ eT A1 A7 rfl (Sto.ofV A1 A2 O I) (g := mkF m pc ls (.ref b :: .int j :: .ref a :: rest)) rfl rfl (hb hby hd)
  exact ⟨T', _, h1, X', e', Fr.snoc X' N ge, Gw.one (Keep.of_wr W) ge, ⟨Keep.of_wr W, Arv.set A1 A2 A3 A4 A5 A6 rfl W i hj hi⟩, q⟩
theorem Go.iastore (D : Amb κ l Z y code maxL ret rm h0 n0 Q) {x : Int32} {i : Nat} (hd : decode code pc = .ok (.iastore, 1)) (hp : pc + 1 = pc') (A : Arv Z h a k .int n vs dv) (h1 : ¬ j < 0) (h2 : j < n) (hj : j.toNatClampNeg = i) (hi : i < vs.length) (ge : n0 ≤ a)
    (G : ∀ h', Keep h h' [a] → Arv Z h' a k .int n (vs.set i (.int x)) dv → Go κ σ h' ce sl pc' ls rest) : Go κ σ h ce sl pc ls (.int x :: .int j :: .ref a :: rest) := by
  subst hp
  obtain ⟨c', A1, A2, A3, A4, A5, A6, A7⟩ := A.inb h1 h2
  refine Go.turn D (P := fun h' => Keep h h' [a] ∧ Arv Z h' a k .int n (vs.set i (.int x)) dv) (fun p e s m args below meth c T locs hx hZ hown hby hml hnm X eT N => ?_) (fun h' q => G h' q.1 q.2)
  obtain ⟨T', h1, X', e', W, q⟩ := stI X hx hZ eT A1 A7 (g := mkF m pc ls (.int x :: .int j :: .ref a :: rest)) rfl rfl (hb hby hd)
  exact ⟨T', _, h1, X', e', Fr.snoc X' N ge, Gw.one (Keep.of_wr W) ge, ⟨Keep.of_wr W, Arv.set A1 A2 A3 A4 A5 A6 rfl W i hj hi⟩, q⟩
theorem Go.castore (D : Amb κ l Z y code maxL ret rm h0 n0 Q) {x x' : Int32} {i : Nat} (hd : decode code pc = .ok (.castore, 1)) (hp : pc + 1 = pc') (A : Arv Z h a k .char n vs dv) (h1 : ¬ j < 0) (h2 : j < n) (hj : j.toNatClampNeg = i) (hi : i < vs.length) (ge : n0 ≤ a) (hx' : nar .char x = x')
    (G : ∀ h', Keep h h' [a] → Arv Z h' a k .char n (vs.set i (.int x')) dv → Go κ σ h' ce sl pc' ls rest) : Go κ σ h ce sl pc ls (.int x :: .int j :: .ref a :: rest) := by
  subst hp hx'
  obtain ⟨c', A1, A2, A3, A4, A5, A6, A7⟩ := A.inb h1 h2
  refine Go.turn D (P := fun h' => Keep h h' [a] ∧ Arv Z h' a k .char n (vs.set i (.int (nar .char x))) dv) (fun p e s m args below meth c T locs hx hZ hown hby hml hnm X eT N => ?_) (fun h' q => G h' q.1 q.2)
  obtain ⟨T', h1, X', e', W, q⟩ := stC X hx hZ eT A1 A7 (g := mkF m pc ls (.int x :: .int j :: .ref a :: rest)) rfl rfl (hb hby hd)
  exact ⟨T', _, h1, X', e', Fr.snoc X' N ge, Gw.one (Keep.of_wr W) ge, ⟨Keep.of_wr W, Arv.set A1 A2 A3 A4 A5 A6 (fits_nar_char x) W i hj hi⟩, q⟩
theorem Go.bastore (D : Amb κ l Z y code maxL ret rm h0 n0 Q) {x x' : Int32} {i : Nat} (hd : decode code pc = .ok (.bastore, 1)) (hp : pc + 1 = pc') (A : Arv Z h a k .byte n vs dv) (h1 : ¬ j < 0) (h2 : j < n) (hj : j.toNatClampNeg = i) (hi : i < vs.length) (ge : n0 ≤ a) (hx' : nar .byte x = x')
    (G : ∀ h', Keep h h' [a] → Arv Z h' a k .byte n (vs.set i (.int x')) dv → Go κ σ h' ce sl pc' ls rest) : Go κ σ h ce sl pc ls (.int x :: .int j :: .ref a :: rest) := by
  subst hp hx'
  obtain ⟨c', A1, A2, A3, A4, A5, A6, A7⟩ := A.inb h1 h2
  refine Go.turn D (P := fun h' => Keep h h' [a] ∧ Arv Z h' a k .byte n (vs.set i (.int (nar .byte x))) dv) (fun p e s m args below meth c T locs hx hZ hown hby hml hnm X eT N => ?_) (fun h' q => G h' q.1 q.2)
  obtain ⟨T', h1, X', e', W, q⟩ := stB X hx hZ eT A1 A7 (g := mkF m pc ls (.int x :: .int j :: .ref a :: rest)) rfl rfl (hb hby hd)
  exact ⟨T', _, h1, X', e', Fr.snoc X' N ge, Gw.one (Keep.of_wr W) ge, ⟨Keep.of_wr W, Arv.set A1 A2 A3 A4 A5 A6 (fits_nar_byte x) W i hj hi⟩, q⟩
end Arrays
/-! classes of objects -/
theorem Go.castY (D : Amb κ l Z y code maxL ret rm h0 n0 Q) {idx : Nat} {K : String} {a : Addr} (w : (Jvm.Cond.classLink y.cls idx K).before a0 Z = true) (hd : decode code pc = .ok (.checkcast idx, 3)) (hp : pc + 3 = pc') (F : Ins Z h a K true) (G : Go κ σ h ce sl pc' ls (.ref a :: rest)) : Go κ σ h ce sl pc ls (.ref a :: rest) := by
  subst hp
  exact Go.calm D (fun p e s m args below meth c T locs hx hZ hown hby hml hh X eT => Jvm.RoadKit.castY X hx hZ hown w eT F (g := mkF m pc ls (.ref a :: rest)) rfl rfl (hb hby hd)) G
theorem Go.instY (D : Amb κ l Z y code maxL ret rm h0 n0 Q) {idx : Nat} {K : String} {a : Addr} (w : (Jvm.Cond.classLink y.cls idx K).before a0 Z = true) (hd : decode code pc = .ok (.instanceof idx, 3)) (hp : pc + 3 = pc') (F : Ins Z h a K true) (G : Go κ σ h ce sl pc' ls (.int 1 :: rest)) : Go κ σ h ce sl pc ls (.ref a :: rest) := by
  subst hp
  exact Go.calm D (fun p e s m args below meth c T locs hx hZ hown hby hml hh X eT => Jvm.RoadKit.instY X hx hZ hown w eT F (g := mkF m pc ls (.ref a :: rest)) rfl rfl (hb hby hd)) G
theorem Go.instN (D : Amb κ l Z y code maxL ret rm h0 n0 Q) {idx : Nat} {K C : String} {a : Addr} (w : (Jvm.Cond.classLink y.cls idx K).before a0 Z = true) (hd : decode code pc = .ok (.instanceof idx, 3)) (hp : pc + 3 = pc') (F : ∃ c t, Z.vm.findClass C = some c ∧ Z.vm.findClass K = some t ∧ Z.vm.assignable c t = false) (E : Exa Z h a C) (G : Go κ σ h ce sl pc' ls (.int 0 :: rest)) : Go κ σ h ce sl pc ls (.ref a :: rest) := by
  subst hp
  exact Go.calm D (fun p e s m args below meth c T locs hx hZ hown hby hml hh X eT => instNo X hx hZ hown w eT E F (g := mkF m pc ls (.ref a :: rest)) rfl rfl (hb hby hd)) G
theorem Go.instNull (D : Amb κ l Z y code maxL ret rm h0 n0 Q) {idx : Nat} (hd : decode code pc = .ok (.instanceof idx, 3)) (hp : pc + 3 = pc') (G : Go κ σ h ce sl pc' ls (.int 0 :: rest)) : Go κ σ h ce sl pc ls (.null :: rest) := by
  subst hp
  exact Go.calm D (fun p e s m args below meth c T locs hx hZ hown hby hml hh X eT => ⟨T, X, eT, X.instanceofNull hx (g := mkF m pc ls (.null :: rest)) rfl rfl (hb hby hd)⟩) G
theorem Go.acmpNe (D : Amb κ l Z y code maxL ret rm h0 n0 Q) {o : Int} {x z : Value} (h1 : x.isRef = true) (h2 : z.isRef = true) (hd : decode code pc = .ok (.if_acmp .ne o, 3)) (ho : 0 ≤ (pc : Int) + o) (hp : ((pc : Int) + o).toNat = pc') (hp2 : pc + 3 = pc2)
    (Gt : ¬ x = z → Go κ σ h ce sl pc' ls rest) (Gf : x = z → Go κ σ h ce sl pc2 ls rest) : Go κ σ h ce sl pc ls (z :: x :: rest) := by
  subst hp hp2
  by_cases q : x = z
  · exact Go.calm D (fun p e s m args below meth c T locs hx hZ hown hby hml hh X eT => ⟨T, X, eT, fun t k => acmp (g := mkF m pc ls (z :: x :: rest)) X hx rfl h1 h2 (same := true) rfl (hb hby hd) rfl (by simp [q]) ho (by simp [acV]) k⟩) (Gf q)
  · exact Go.calm D (fun p e s m args below meth c T locs hx hZ hown hby hml hh X eT => ⟨T, X, eT, fun t k => acmp (g := mkF m pc ls (z :: x :: rest)) X hx rfl h1 h2 (same := false) rfl (hb hby hd) rfl (by simp [q]) ho (by simp [acV]) k⟩) (Gt q)
theorem Go.acmpEq (D : Amb κ l Z y code maxL ret rm h0 n0 Q) {o : Int} {x z : Value} (h1 : x.isRef = true) (h2 : z.isRef = true) (hd : decode code pc = .ok (.if_acmp .eq o, 3)) (ho : 0 ≤ (pc : Int) + o) (hp : ((pc : Int) + o).toNat = pc') (hp2 : pc + 3 = pc2)
    (Gt : x = z → Go κ σ h ce sl pc' ls rest) (Gf : ¬ x = z → Go κ σ h ce sl pc2 ls rest) : Go κ σ h ce sl pc ls (z :: x :: rest) := by
  subst hp hp2
  by_cases q : x = z
  · exact Go.calm D (fun p e s m args below meth c T locs hx hZ hown hby hml hh X eT => ⟨T, X, eT, fun t k => acmp (g := mkF m pc ls (z :: x :: rest)) X hx rfl h1 h2 (same := true) rfl (hb hby hd) rfl (by simp [q]) ho (by simp [acV]) k⟩) (Gt q)
  · exact Go.calm D (fun p e s m args below meth c T locs hx hZ hown hby hml hh X eT => ⟨T, X, eT, fun t k => acmp (g := mkF m pc ls (z :: x :: rest)) X hx rfl h1 h2 (same := false) rfl (hb hby hd) rfl (by simp [q]) ho (by simp [acV]) k⟩) (Gf q)
/-! System.arraycopy -/
theorem Go.acopy (D : Amb κ l Z y code maxL ret rm h0 n0 Q) {idx sN dN nN : Nat} {a b : Addr} {k k' : ClassId} {ty : FieldType} {z z' sp dp nn : Int32} {vs vd : List Value} {dv dd : Value} (w1 : (Jvm.Cond.methodLink y.cls idx Jvm.Stand.acN).before a0 Z = true) (w2 : (Jvm.Cond.native Jvm.Stand.acN).before a0 Z = true) (w3 : (Jvm.Cond.static Jvm.Stand.acN).before a0 Z = true) (w4 : (Jvm.Cond.initialized "java/lang/System").before a0 Z = true)
    (hd : decode code pc = .ok (.invokestatic idx, 3)) (hp : pc + 3 = pc') (A : Arv Z h a k ty z vs dv) (B : Arv Z h b k' ty z' vd dd) (hty : refKind ty = false) (h1 : ¬ sp < 0) (h2 : ¬ dp < 0) (h3 : ¬ nn < 0) (e1 : sp.toNatClampNeg = sN) (e2 : dp.toNatClampNeg = dN) (e3 : nn.toNatClampNeg = nN) (h4 : sN + nN ≤ z.toNatClampNeg) (h5 : dN + nN ≤ z'.toNatClampNeg)
    (hl : dN + nN ≤ vd.length) (ge : n0 ≤ b) (hls : ls.size = maxL) (hf : 1 ≤ rm.frames) {W : Nat} (hW : (rest.map fun v => v.category).sum = W) (hlo : W + (nativeFrameWords "java/lang/System" "arraycopy" 5 + 11) ≤ rm.locals)
    (G : ∀ h', Keep h h' [b] → Arv Z h' b k' ty z' (vd.take dN ++ ((List.range nN).map fun i => vs.getD (sN + i) dv) ++ vd.drop (dN + nN)) dd → Go κ σ h' ce sl pc' ls rest) : Go κ σ h ce sl pc ls (.int nn :: .int dp :: .ref b :: .int sp :: .ref a :: rest) := by
  subst hp e1 e2 e3
  refine Go.turn D (P := fun h' => Keep h h' [b] ∧ Arv Z h' b k' ty z' (vd.take dp.toNatClampNeg ++ ((List.range nn.toNatClampNeg).map fun i => vs.getD (sp.toNatClampNeg + i) dv) ++ vd.drop (dp.toNatClampNeg + nn.toNatClampNeg)) dd) (fun p e s m args below meth c T locs hx hZ hown hby hml hnm X eT N => ?_) (fun h' q => G h' q.1 q.2)
  obtain ⟨T', h1, L, X', e', N', K, A', q⟩ := cpA X hx hZ hown w1 w2 w3 w4 eT A B (Or.inl ⟨rfl, hty⟩) h1 h2 h3 h4 h5 rfl hl N ge (g := mkF m pc ls (.int nn :: .int dp :: .ref b :: .int sp :: .ref a :: rest)) rfl (hls.trans hml.symm) rfl (hb hby hd) hf (W := W) (by show 2 * 0 + _ ≤ _; rw [hW]; omega) hlo
  exact ⟨T', L, h1, X', e', N', Gw.one K ge, ⟨K, A'⟩, q⟩
theorem nin1 {x y : Addr} (q : x ≠ y) : x ∉ [y] := fun z => q (List.mem_singleton.mp z)
/-! calls -/
section Calls
variable {z : MethodName} {bytes : ByteArray} {maxLz : Nat} {retz : Option FieldType} {rmz : Room} {argsL : List Value} {Qz : Option Value → Heap → Sg → Prop} {idx : Nat} {ps : List FieldType} {rt : Option FieldType}
theorem backOfW {p : Program} {e : Env} {R : Room} {s : State} {args : Array Value} {below : List Frame} {len W : Nat} (hM : Con l Z z bytes maxLz retz rmz [] as σ h n0 Qz)
    (hZ : Z.Warmed39 s.vm) (wc : (Jvm.Cond.code z bytes maxLz retz).before a0 Z = true) (wz : (Jvm.Cond.initialized z.cls).before a0 Z = true) (hf : rmz.frames + 1 ≤ R.frames) (hl : W + (maxLz + 11) + rmz.locals ≤ R.locals) :
    BackS l R p e below s args z len W (fun A a => a = as ∧ A.U.heap = h ∧ A.cells + rmz.cells ≤ R.cells ∧ A.slots + rmz.slots ≤ R.slots ∧ VOk Z A.U.vm σ ∧ Old Z n0 A.U.heap)
      (fun A _ v B => ∃ L σ', (Fr n0 L ∧ VOk Z B.U.vm σ' ∧ Old Z n0 B.U.heap ∧ Qz v B.U.heap σ') ∧ B.locs = A.locs ++ L ∧ B.cells = A.cells + rmz.cells ∧ B.slots = A.slots + rmz.slots) :=
  BackS.of_freeW (bytes := bytes) (maxL := maxLz) (ret := retz) (E := fun _ _ o t L k n => k = rmz.cells ∧ n = rmz.slots ∧ ∃ v σ', o = .returned v ∧ (Fr n0 L ∧ VOk Z t.vm σ' ∧ Old Z n0 t.heap ∧ Qz v t.heap σ')) hM hf hl
    (fun m meth c A a Y hp => have hU : Z.Warmed39 A.U.vm := wtrans hZ Y.warmed
      ⟨by show (Jvm.Cond.and _ .tt).before a A.U = true; rw [Cond.before_and, mv hU wc]; rfl, mv hU wc, mv hU wz, hp.2.2.1, hp.2.2.2.1⟩)
    (fun m meth c A a g mk Y hp => ⟨hp.1, wtrans hZ Y.warmed, hp.2.1, hp.2.2.2.2.1, hp.2.2.2.2.2⟩) (fun _ _ _ _ _ _ _ _ _ => trivial)
    (fun _ _ _ _ ⟨v, L, σ', h1, h2, h3⟩ => ⟨L, _, _, h3, rfl, rfl, v, σ', h1, h2⟩)
    (fun m meth c A a g mk v t L k n Y hp _ _ ⟨e1, e2, v', σ', e3, e4⟩ => by cases e3; subst e1 e2; exact ⟨L, σ', e4, rfl, rfl, rfl⟩)
theorem Go.callS (D : Amb κ l Z y code maxL ret rm h0 n0 Q) (M : Con l Z z bytes maxLz retz rmz [] argsL.toArray σ h n0 Qz) (w1 : (Jvm.Cond.methodLink y.cls idx z).before a0 Z = true) (w2 : (Jvm.Cond.static z).before a0 Z = true) (w3 : (Jvm.Cond.initialized z.cls).before a0 Z = true) (w4 : (Jvm.Cond.code z bytes maxLz retz).before a0 Z = true)
    (hz : z.cls ≠ "java/lang/invoke/MethodHandle" ∧ z.cls ≠ "java/lang/invoke/VarHandle") (hd : decode code pc = .ok (.invokestatic idx, 3)) (hp : pc + 3 = pc') (hpd : parseMethodDescriptor z.desc = some ⟨ps, rt⟩) (hlen : argsL.length = ps.length) (hst : st = argsL.reverse ++ rest) (hls : ls.size = maxL)
    (hf : rmz.frames + 1 ≤ rm.frames) {W : Nat} (hW : (rest.map fun v => v.category).sum = W) (hlo : W + (maxLz + 11) + rmz.locals ≤ rm.locals) (hce : ce + rmz.cells ≤ ce') (hsl : sl + rmz.slots ≤ sl') (hc : ce' ≤ rm.cells) (hs : sl' ≤ rm.slots)
    (G : ∀ v h' σ', Qz v h' σ' → Go κ σ' h' ce' sl' pc' ls (v.toList ++ rest)) : Go κ σ h ce sl pc ls st := by
  subst hp
  obtain ⟨p, l', e, R, s, m, args, below, meth, c, Z', n0', Q'⟩ := κ
  obtain ⟨rfl, rfl, rfl, rfl, hQ, hx, hZ, hown, hby, hml, hret, hlk, hnm, hh⟩ := D
  intro vm0 k0 T locs X hS hk V O eT N
  have hZ0 : Z'.Warmed39 (s.setVm vm0).vm := State.Warmed39.trans (t := s) hZ hS.1
  have hown0 : (s.setVm vm0).vm.findClass y.cls = some m.cls := by show vm0.findClass _ = _; rw [hS.1.alike.findClass]; exact hown
  obtain ⟨v, vm₁, ⟨T1, L1, k1, n1⟩, -, X1, hS1, hsz, ⟨Lc, σ', hQ1, l1, y1, z1⟩, st1⟩ := callSS X hx (y := z) hown0 (mvT hZ0 w1) (mvT hZ0 w2) (mvT hZ0 w3) (mvT hZ0 w4) hz (backOfW (W := W) M hZ0 w4 w3 hf hlo) (g := mkF m pc ls st) rfl (hls.trans hml.symm) (argsL := argsL) (rest := rest) (lenOf hpd hlen) hst (by show 2 * 0 + _ ≤ _; rw [hW]; omega) (hb hby hd) (fun vm₁ hw1 => ⟨rfl, eT, Nat.le_trans hce hc, Nat.le_trans hsl hs, V.warm hw1, by show Old _ _ T.heap; rw [eT]; exact O⟩)
  dsimp only [Pt.U, Pt.locs, Pt.cells, Pt.slots] at X1 l1 y1 z1 st1 hQ1 hS1 hsz
  subst l1 y1 z1
  obtain ⟨s₂, o, g1, g2⟩ := G v T1.heap σ' hQ1.2.2.2 T1.vm T1.heap.size T1 _ (sd_mono X1 hce hsl) (hS.trans hS1 (by rw [eT] at hsz; exact Nat.le_trans hk hsz)) (Nat.le_refl _) hQ1.2.1 hQ1.2.2.1 rfl (Fr.app N hQ1.1)
  exact ⟨s₂, o, st1.trans g1, g2⟩
theorem Go.callI (D : Amb κ l Z y code maxL ret rm h0 n0 Q) {a : Addr} (M : Con l Z z bytes maxLz none rmz [] (.ref a :: argsL).toArray σ h n0 Qz) (hz1 : z.name = "<init>") (w1 : (Jvm.Cond.methodLink y.cls idx z).before a0 Z = true) (w2 : (Jvm.Cond.instanceMethod z).before a0 Z = true) (w3 : (Jvm.Cond.initialized z.cls).before a0 Z = true) (w4 : (Jvm.Cond.code z bytes maxLz none).before a0 Z = true)
    (hz : z.cls ≠ "java/lang/invoke/MethodHandle" ∧ z.cls ≠ "java/lang/invoke/VarHandle") (hd : decode code pc = .ok (.invokespecial idx, 3)) (hp : pc + 3 = pc') (hpd : parseMethodDescriptor z.desc = some ⟨ps, rt⟩) (hlen : argsL.length = ps.length) (hst : st = argsL.reverse ++ .ref a :: rest) (hls : ls.size = maxL)
    (hf : rmz.frames + 1 ≤ rm.frames) {W : Nat} (hW : (rest.map fun v => v.category).sum = W) (hlo : W + (maxLz + 11) + rmz.locals ≤ rm.locals) (hce : ce + rmz.cells ≤ ce') (hsl : sl + rmz.slots ≤ sl') (hc : ce' ≤ rm.cells) (hs : sl' ≤ rm.slots)
    (G : ∀ v h' σ', Qz v h' σ' → Go κ σ' h' ce' sl' pc' ls (v.toList ++ rest)) : Go κ σ h ce sl pc ls st := by
  subst hp
  obtain ⟨p, l', e, R, s, m, args, below, meth, c, Z', n0', Q'⟩ := κ
  obtain ⟨rfl, rfl, rfl, rfl, hQ, hx, hZ, hown, hby, hml, hret, hlk, hnm, hh⟩ := D
  intro vm0 k0 T locs X hS hk V O eT N
  have hZ0 : Z'.Warmed39 (s.setVm vm0).vm := State.Warmed39.trans (t := s) hZ hS.1
  have hown0 : (s.setVm vm0).vm.findClass y.cls = some m.cls := by show vm0.findClass _ = _; rw [hS.1.alike.findClass]; exact hown
  obtain ⟨v, vm₁, ⟨T1, L1, k1, n1⟩, -, X1, hS1, hsz, ⟨Lc, σ', hQ1, l1, y1, z1⟩, st1⟩ := X.specialBackS hx (y := z) hz1 hown0 (mvT hZ0 w1) (mvT hZ0 w2) (mvT hZ0 w4) hz (backOfW (W := W) M hZ0 w4 w3 hf hlo) (g := mkF m pc ls st) rfl (hls.trans hml.symm) (Steps.refl _) (a := a) (argsL := argsL) (rest := rest) (lenOf hpd hlen) hst (by show 2 * 0 + _ ≤ _; rw [hW]; omega) (hb hby hd) (fun vm₁ hw1 => ⟨rfl, eT, Nat.le_trans hce hc, Nat.le_trans hsl hs, V.warm hw1, by show Old _ _ T.heap; rw [eT]; exact O⟩)
  dsimp only [Pt.U, Pt.locs, Pt.cells, Pt.slots] at X1 l1 y1 z1 st1 hQ1 hS1 hsz
  subst l1 y1 z1
  obtain ⟨s₂, o, g1, g2⟩ := G v T1.heap σ' hQ1.2.2.2 T1.vm T1.heap.size T1 _ (sd_mono X1 hce hsl) (hS.trans hS1 (by rw [eT] at hsz; exact Nat.le_trans hk hsz)) (Nat.le_refl _) hQ1.2.1 hQ1.2.2.1 rfl (Fr.app N hQ1.1)
  exact ⟨s₂, o, st1.trans g1, g2⟩
theorem Go.callV (D : Amb κ l Z y code maxL ret rm h0 n0 Q) {a : Addr} {C : String} {zr : MethodName} (M : Con l Z z bytes maxLz retz rmz [] (.ref a :: argsL).toArray σ h n0 Qz) (w1 : (Jvm.Cond.methodLink y.cls idx zr).before a0 Z = true) (w2 : (Jvm.Cond.declares zr).before a0 Z = true) (ws : (Jvm.Cond.selects C zr z).before a0 Z = true) (wi : (Jvm.Cond.instanceMethod z).before a0 Z = true) (w3 : (Jvm.Cond.initialized z.cls).before a0 Z = true) (w4 : (Jvm.Cond.code z bytes maxLz retz).before a0 Z = true)
    (nf : ∀ s : State, Z.Warmed39 s.vm → NotFace s zr) (hz : zr.cls ≠ "java/lang/invoke/MethodHandle" ∧ zr.cls ≠ "java/lang/invoke/VarHandle") (E : Exa Z h a C) (hd : decode code pc = .ok (.invokevirtual idx, 3)) (hp : pc + 3 = pc') (hpd : parseMethodDescriptor zr.desc = some ⟨ps, rt⟩) (hlen : argsL.length = ps.length) (hst : st = argsL.reverse ++ .ref a :: rest) (hls : ls.size = maxL)
    (hf : rmz.frames + 1 ≤ rm.frames) {W : Nat} (hW : (rest.map fun v => v.category).sum = W) (hlo : W + (maxLz + 11) + rmz.locals ≤ rm.locals) (hce : ce + rmz.cells ≤ ce') (hsl : sl + rmz.slots ≤ sl') (hc : ce' ≤ rm.cells) (hs : sl' ≤ rm.slots)
    (G : ∀ v h' σ', Qz v h' σ' → Go κ σ' h' ce' sl' pc' ls (v.toList ++ rest)) : Go κ σ h ce sl pc ls st := by
  subst hp
  obtain ⟨p, l', e, R, s, m, args, below, meth, c, Z', n0', Q'⟩ := κ
  obtain ⟨rfl, rfl, rfl, rfl, hQ, hx, hZ, hown, hby, hml, hret, hlk, hnm, hh⟩ := D
  intro vm0 k0 T locs X hS hk V O eT N
  have hZ0 : Z'.Warmed39 (s.setVm vm0).vm := State.Warmed39.trans (t := s) hZ hS.1
  have hown0 : (s.setVm vm0).vm.findClass y.cls = some m.cls := by show vm0.findClass _ = _; rw [hS.1.alike.findClass]; exact hown
  obtain ⟨cq, kq, q1, q2, q3⟩ := isOf hZ0 eT E
  obtain ⟨v, vm₁, ⟨T1, L1, k1, n1⟩, -, X1, hS1, hsz, ⟨Lc, σ', hQ1, l1, y1, z1⟩, st1⟩ := X.virtualBackS hx (y := zr) (z := z) hown0 (mvT hZ0 w1) (mvT hZ0 w2) (nf _ hZ0) (mvT hZ0 ws) (mvT hZ0 wi) hz (backOfW (W := W) M hZ0 w4 w3 hf hlo) q1 q3 (g := mkF m pc ls st) rfl (hls.trans hml.symm) (Steps.refl _) (argsL := argsL) (rest := rest) (lenOf hpd hlen) hst (by show 2 * 0 + _ ≤ _; rw [hW]; omega) (hb hby hd) (fun vm₁ hw1 => ⟨rfl, eT, Nat.le_trans hce hc, Nat.le_trans hsl hs, V.warm hw1, by show Old _ _ T.heap; rw [eT]; exact O⟩)
  dsimp only [Pt.U, Pt.locs, Pt.cells, Pt.slots] at X1 l1 y1 z1 st1 hQ1 hS1 hsz
  subst l1 y1 z1
  obtain ⟨s₂, o, g1, g2⟩ := G v T1.heap σ' hQ1.2.2.2 T1.vm T1.heap.size T1 _ (sd_mono X1 hce hsl) (hS.trans hS1 (by rw [eT] at hsz; exact Nat.le_trans hk hsz)) (Nat.le_refl _) hQ1.2.1 hQ1.2.2.1 rfl (Fr.app N hQ1.1)
  exact ⟨s₂, o, st1.trans g1, g2⟩
theorem nfS {C : String} {y : MethodName} (h : (Jvm.Cond.selects C y y).before a0 Z = true) : ∀ s : State, Z.Warmed39 s.vm → NotFace s y := fun s hZ => notFace_of_selects (args := #[]) (mvT hZ h)
end Calls
/-! String constants -/
/-- a constant whose text nobody reads -/
theorem Go.ldcR (D : Amb κ l Z y code maxL ret rm h0 n0 Q) {idx n : Nat} {text : String} (w : (Jvm.Cond.stringLink y.cls idx text).before a0 Z = true) (wS : ∀ a ∈ Bundle.stringAtoms, a.before a0 Z = true) (hd : decode code pc = .ok (.ldc idx, 2)) (hp : pc + 2 = pc') (hn : 4 * text.toList.length ≤ n) (hbig : n ≤ 536870912) (hce : ce + 2 = ce') (hsl : sl + (n + 4) = sl') (hc : ce' ≤ rm.cells) (hs : sl' ≤ rm.slots)
    (G : ∀ h' a, Ext h h' → Go κ none h' ce' sl' pc' ls (.ref a :: st)) : Go κ none h ce sl pc ls st := by
  subst hp hce hsl
  obtain ⟨p, l', e, R, s, m, args, below, meth, c, Z', n0', Q'⟩ := κ
  obtain ⟨rfl, rfl, rfl, rfl, hQ, hx, hZ, hown, hby, hml, hret, hlk, hnm, hh⟩ := D
  intro vm0 k0 T locs X hS hk V O eT N
  have hZ0 : Z'.Warmed39 vm0 := State.Warmed39.trans (t := s) hZ hS.1
  have hown0 : vm0.findClass y.cls = some m.cls := by rw [hS.1.alike.findClass]; exact hown
  obtain ⟨a, T', h', k1, X', eT', E, hS', hk', -, -, k⟩ := ldcS X hx hZ0 hown0 w wS eT hS hk (g := mkF m pc ls st) rfl (hb hby hd) hn hbig hc hs
  obtain ⟨s₂, o, g1, g2⟩ := G h' a E T'.vm k1 T' locs X' hS' hk' trivial (O.ext E) eT' N
  exact ⟨s₂, o, k _ g1, g2⟩
/-- the same place of a walk, over a start that has the heap and the tables at hand -/
theorem reb {p : Program} {e : Env} {R : Room} {s : State} {m : MethodId} {args : Array Value} {below : List Frame} {meth : Method} {c : Code} {T : State} {locs : List Loc} (X : Stand p l e R s m args below meth c T locs ce sl) (hc : ce ≤ R.cells) (hs : sl ≤ R.slots) :
    Stand p l e { R with cells := R.cells - ce, slots := R.slots - sl } ({ (s.setVm T.vm) with heap := T.heap, slotsUsed := T.slotsUsed } : State) m args below meth c T [] 0 0 := by
  have Y := X.retabled X.warmed.wide
  refine { admits := X.admits, cas := X.cas, clock := X.clock, frames := X.frames, room := ?_, hears := Y.hears, method := Y.method, code := X.code, here := X.here, tail := X.tail, warmed := State.WarmedH.refl _, limits := X.limits, bytes := X.bytes, same := ?_ }
  · have r := Y.room
    have b := X.book
    have h1 := X.heapSize
    have h2 := X.used
    simp only [State.hasRoom, Bool.and_eq_true, decide_eq_true_eq] at r ⊢
    obtain ⟨⟨⟨⟨r1, r2⟩, r3⟩, r4⟩, r5⟩ := r
    refine ⟨⟨⟨⟨r1, r2⟩, ?_⟩, ?_⟩, b⟩
    · have r3' : s.heap.size + R.cells ≤ e.platform.maxCells := r3
      show T.heap.size + (R.cells - ce) ≤ e.platform.maxCells
      omega
    · have r4' : s.slotsUsed + R.slots ≤ e.platform.maxSlots := r4
      show T.slotsUsed + (R.slots - sl) ≤ e.platform.maxSlots
      omega
  · refine ⟨?_, Nat.le_refl _, by show T.heap.size ≤ T.heap.size + 0; omega, ?_, ?_, fun a c hc => ⟨c, hc, rfl, rfl, fun _ _ => rfl⟩⟩
    · have q := congrArg (fun u : State => u.setVm T.vm) X.same.1
      exact q
    · show T.slotsUsed = T.slotsUsed + ((T.heap.toList.drop T.heap.size).map (·.slots.size)).sum
      rw [List.drop_eq_nil_of_le (by simp)]; simp
    · show ((T.heap.toList.drop T.heap.size).map (·.slots.size)).sum ≤ 0
      rw [List.drop_eq_nil_of_le (by simp)]; simp
/-- a String that spells these bytes -/
def SC (Z : State) (h : Heap) (a : Addr) (z : Int32) (vs : List Value) : Prop := Exa Z h a "java/lang/String" ∧ Fld Z h a "java/lang/String" "coder" "B" (.int 0) ∧ ∃ (b : Addr) (k : ClassId), Fld Z h a "java/lang/String" "value" "[B" (.ref b) ∧ Arv Z h b k .byte z vs (.int 0)
theorem SC.ext {a : Addr} {z : Int32} {vs : List Value} (F : SC Z h a z vs) (E : Ext h h') : SC Z h' a z vs := by
  obtain ⟨f1, f2, b, k, f3, f4⟩ := F
  exact ⟨f1.ext E, f2.ext E, b, k, f3.ext E, f4.ext E⟩
theorem SC.wr {a s : Addr} {C : String} {n sl : Nat} {v : Value} {z : Int32} {vs : List Value} (S : SC Z h a z vs) (W : Wr h h' s sl v) (q : a ≠ s) (E : Exa Z h s C) (wi : (Jvm.Cond.instantiable C n).before a0 Z = true) : SC Z h' a z vs := by
  obtain ⟨f1, f2, b, k, f3, f4⟩ := S
  exact ⟨f1.wr W, f2.other W (Or.inl q), b, k, f3.other W (Or.inl q), f4.other W (Ne.symm (Exa.neArv E f4 wi))⟩
/-- a constant that this walk has loaded -/
theorem Go.ldcA (D : Amb κ l Z y code maxL ret rm h0 n0 Q) {idx : Nat} {text : String} {L : List (String × Nat × String × Addr)} {a : Addr} (w : (Jvm.Cond.stringLink y.cls idx text).before a0 Z = true) (ha : (y.cls, idx, text, a) ∈ L) (hd : decode code pc = .ok (.ldc idx, 2)) (hp : pc + 2 = pc') (G : Go κ (some L) h ce sl pc' ls (.ref a :: st)) : Go κ (some L) h ce sl pc ls st := by
  subst hp
  obtain ⟨p, l', e, R, s, m, args, below, meth, c, Z', n0', Q'⟩ := κ
  obtain ⟨rfl, rfl, rfl, rfl, hQ, hx, hZ, hown, hby, hml, hret, hlk, hnm, hh0⟩ := D
  intro vm0 k0 T locs X hS hk V O eT N
  have hZ0 : Z'.Warmed39 vm0 := State.Warmed39.trans (t := s) hZ hS.1
  have hown0 : vm0.findClass y.cls = some m.cls := by rw [hS.1.alike.findClass]; exact hown
  have Lt : Lit (s.setVm vm0) y.cls idx a := V.2 _ ha
  have k := ldcAgain X hx hZ0 hown0 w Lt (g := mkF m pc ls st) rfl (hb hby hd)
  obtain ⟨s₂, o, g1, g2⟩ := G vm0 k0 T locs X hS hk V O eT N
  exact ⟨s₂, o, k _ g1, g2⟩
/-- a constant whose text is read -/
theorem Go.ldcT (D : Amb κ l Z y code maxL ret rm h0 n0 Q) {idx n : Nat} {text : String} {L : List (String × Nat × String × Addr)} {vs : List Value} {z : Int32} (w : (Jvm.Cond.stringLink y.cls idx text).before a0 Z = true) (wS : ∀ a ∈ Bundle.stringAtoms, a.before a0 Z = true) (hh : Jvm.Lit.constHeld Z y.cls idx) (hcw : Jvm.Lit.compactW.before a0 Z = true)
    (ht : (∀ c ∈ text.toList, c.toNat < 256) ∧ text.toList.map (fun c => Value.int (Jvm.Lit.byteI c.toNat.toUInt16)) = vs) (hz : ¬ z < 0) (hl : z.toNatClampNeg = vs.length) (hL : (∃ a, (y.cls, idx, text, a) ∈ L) ∨ text ∉ L.map fun q => q.2.2.1) (I : ∀ a, (y.cls, idx, text, a) ∈ L → SC Z h a z vs)
    (hd : decode code pc = .ok (.ldc idx, 2)) (hp : pc + 2 = pc') (hn : 4 * text.toList.length ≤ n) (hbig : n ≤ 536870912) (hce : ce + 2 = ce') (hsl : sl + (n + 4) = sl') (hc : ce' ≤ rm.cells) (hs : sl' ≤ rm.slots)
    (G : ∀ h' a L', Ext h h' → (y.cls, idx, text, a) ∈ L' → (L' = L ∨ L' = (y.cls, idx, text, a) :: L) → SC Z h' a z vs → Go κ (some L') h' ce' sl' pc' ls (.ref a :: st)) : Go κ (some L) h ce sl pc ls st := by
  subst hp hce hsl
  obtain ⟨p, l', e, R, s, m, args, below, meth, c, Z', n0', Q'⟩ := κ
  obtain ⟨rfl, rfl, rfl, rfl, hQ, hx, hZ, hown, hby, hml, hret, hlk, hnm, hh0⟩ := D
  intro vm0 k0 T locs X hS hk V O eT N
  have hZ0 : Z'.Warmed39 vm0 := State.Warmed39.trans (t := s) hZ hS.1
  have hown0 : vm0.findClass y.cls = some m.cls := by rw [hS.1.alike.findClass]; exact hown
  rcases hL with ⟨a, ha⟩ | hnot
  · have Lt : Lit (s.setVm vm0) y.cls idx a := V.2 _ ha
    have k := ldcAgain X hx hZ0 hown0 w Lt (g := mkF m pc ls st) rfl (hb hby hd)
    obtain ⟨s₂, o, g1, g2⟩ := G h a L ⟨Nat.le_refl _, fun _ _ q => q⟩ ha (Or.inl rfl) (I a ha) vm0 k0 T locs (sd_mono X (by omega) (by omega)) hS hk V O eT N
    exact ⟨s₂, o, k _ g1, g2⟩
  · have hc0 : ce ≤ R.cells := by omega
    have hs0 : sl ≤ R.slots := by omega
    have Y := reb X hc0 hs0
    have hZT : Z'.Warmed39 T.vm := State.Warmed39.trans (t := s.setVm vm0) hZ0 X.warmed.wide
    have hownT : T.vm.findClass y.cls = some m.cls := by rw [X.warmed.alike.findClass]; exact hown0
    have VT : VOk Z' T.vm (some L) := V.warm X.warmed
    obtain ⟨a, T', h', k1, b, kb, X', eT', E, hS', hk', hW', -, F1, F2, F3, F4, -, -, hI, hLit, k⟩ := ldcSVL (s := ({ ((s.setVm vm0).setVm T.vm) with heap := T.heap, slotsUsed := T.slotsUsed } : State)) (vm0 := T.vm) Y hx hZT hownT w wS eT (k0 := h.size) ((State.WarmedH.refl _).since _) (Nat.le_refl _) (Fr.nil _) (fun b cl hb => by show T.heap[b]? = _; rw [eT]; exact O.2.2 b cl hb) VT.1 hnot hh hcw ht hz hl (g := mkF m pc ls st) rfl (hb hby hd) hn hbig (by show 0 + 2 ≤ R.cells - ce; omega) (by show 0 + (n + 4) ≤ R.slots - sl; omega)
    have hT39 : T.Warmed39 T'.vm := hS'.1
    have hTB : T.Booked T'.vm T'.heap.size := State.Booked.mono (s := T) hS'.2 (by rw [eT']; exact hk')
    have hsame : T.sameButNew (T'.setVm T.vm) [] 2 (n + 4) := by
      obtain ⟨q1, q2, q3, q4, q5, q6⟩ := X'.same
      refine ⟨?_, q2, by have := q3; simp only [Nat.zero_add] at this; exact this, q4, by have := q5; simp only [Nat.zero_add] at this; exact this, q6⟩
      have r1 := congrArg (fun u : State => u.setVm T.vm) q1
      have r2 : (T'.setVm T.vm) = ({ ((s.setVm vm0).setVm T.vm).setFrames T'.frames with heap := T'.heap, slotsUsed := T'.slotsUsed } : State) := r1
      have r3 := congrArg (fun u : State => ({ (u.setVm T.vm).setFrames T'.frames with heap := T'.heap, slotsUsed := T'.slotsUsed } : State)) X.same.1
      have r4 : ({ T.setFrames T'.frames with heap := T'.heap, slotsUsed := T'.slotsUsed } : State) = ({ (((s.setVm vm0).setVm T.vm).setFrames T.frames).setFrames T'.frames with heap := T'.heap, slotsUsed := T'.slotsUsed } : State) := r3
      rw [State.setFrames_setFrames] at r4
      exact r2.trans r4.symm
    obtain ⟨X2, hS2⟩ := X.movedW X'.here X'.tail (X'.limits.trans X.limits.symm) (X'.bytes.trans X.bytes.symm) hT39 hTB hsame
    have V2 : VOk Z' T'.vm (some ((y.cls, idx, text, a) :: L)) := by
      refine ⟨hI, fun q hq => ?_⟩
      rcases List.mem_cons.mp hq with rfl | hq
      · exact hLit
      · have h1 : Lit (T.setVm T.vm) q.1 q.2.1 q.2.2.2 := VT.2 q hq
        exact Lit.stays (s := T) (vm0 := T.vm) h1 hT39
    have hle : h.size ≤ T'.heap.size := by rw [eT']; exact E.1
    obtain ⟨s₂, o, g1, g2⟩ := G h' a _ E (List.mem_cons_self ..) (Or.inr rfl) ⟨F1, F2, b, kb, F3, F4⟩ T'.vm T'.heap.size T' (locs ++ []) X2 (hS.trans hS2 (Nat.le_trans hk hle)) (by rw [eT']; exact Nat.le_refl _) V2 (O.ext E) eT' (by rw [List.append_nil]; exact N)
    exact ⟨s₂, o, k _ g1, g2⟩
end Rules
end Jvm.OwnKit

namespace Jvm.Pilot.@@N@@
open Jvm Jvm.ClassFile Sem Op Lib Jvm.Free Jvm.Stand Jvm.LawKit Jvm.RoadKit Bundle Jvm.OwnKit Jvm.Pilot.@@N@@.Jvm.D

/-! numbers -/
theorem own_ti {i : Nat} (h : i < 2147483648) : (Int32.ofNat i).toInt = i := Int32.toInt_ofNat_small (by omega)
theorem own_tn {i : Nat} (h : i < 2147483648) : (Int32.ofNat i).toNatClampNeg = i := by simp only [Int32.toNatClampNeg, own_ti h]; rfl
theorem own_nn {i : Nat} (h : i < 2147483648) : ¬ Int32.ofNat i < 0 := by rw [Int32.lt_iff_toInt_lt, own_ti h]; show ¬ (i : Int) < 0; omega
theorem own_lt {i j : Nat} (hi : i < 2147483648) (hj : j < 2147483648) : Int32.ofNat i < Int32.ofNat j ↔ i < j := by rw [Int32.lt_iff_toInt_lt, own_ti hi, own_ti hj]; omega
theorem own_inj {i j : Nat} (hi : i < 2147483648) (hj : j < 2147483648) (h : Int32.ofNat i = Int32.ofNat j) : i = j := by
  have := congrArg Int32.toInt h; rw [own_ti hi, own_ti hj] at this; omega
theorem own_succ (i : Nat) : Int32.ofNat i + 1 = Int32.ofNat (i + 1) := Int32.ofNat_succ i
theorem own_ne {a b : Nat} (h : a < b ∨ b < a) : a ≠ b := fun e => by subst e; omega
theorem own_ltn {a b : Nat} (h : a < b) : a < b := h
/-! chars and bytes -/
def bv (cs : List Int32) : List Value := cs.map fun c => Value.int c.toInt8.toInt32
def Lat (cs : List Int32) : Prop := (∀ c ∈ cs, ¬ c < 0 ∧ c < 256) ∧ cs.length ≤ 64
theorem bv_len (cs : List Int32) : (bv cs).length = cs.length := by simp [bv]
theorem own_bb (x : Int32) : nar .byte (x.toInt8.toInt32) = x.toInt8.toInt32 := by
  show x.toInt8.toInt32.toInt8.toInt32 = x.toInt8.toInt32
  rw [Int8.toInt8_toInt32]
theorem byte_inj {c d : Int32} (hc : ¬ c < 0 ∧ c < 256) (hd : ¬ d < 0 ∧ d < 256) (h : c.toInt8.toInt32 = d.toInt8.toInt32) : c = d := by
  have a := c_i2b c
  have b := c_i2b d
  rw [h] at a
  simp only [Int32.lt_iff_toInt_lt, show (0 : Int32).toInt = 0 from rfl, show (256 : Int32).toInt = 256 from rfl] at hc hd
  apply Int32.toInt_inj.mp
  omega
theorem bv_inj {cs ds : List Int32} (hc : ∀ c ∈ cs, ¬ c < 0 ∧ c < 256) (hd : ∀ c ∈ ds, ¬ c < 0 ∧ c < 256) (h : bv cs = bv ds) : cs = ds := by
  induction cs generalizing ds with
  | nil =>
    cases ds with
    | nil => rfl
    | cons d ds => simp [bv] at h
  | cons c cs ih =>
    cases ds with
    | nil => simp [bv] at h
    | cons d ds =>
      simp only [bv, List.map_cons, List.cons.injEq, Value.int.injEq] at h
      rw [byte_inj (hc c (by simp)) (hd d (by simp)) h.1, ih (fun x hx => hc x (by simp [hx])) (fun x hx => hd x (by simp [hx])) h.2]
theorem cs_at {cs : List Int32} {i : Nat} (h : i < cs.length) (d : Value) : (cs.map Value.int).getD i d = .int cs[i] := by simp [h]
theorem bv_at {cs : List Int32} {i : Nat} (h : i < cs.length) (d : Value) : (bv cs).getD i d = .int (cs[i].toInt8.toInt32) := by simp [bv, h]
theorem own_bset {cs : List Int32} {i : Nat} (h : i < cs.length) : ((bv cs).take i ++ List.replicate (cs.length - i) (Value.int 0)).set i (.int (cs[i].toInt8.toInt32)) = (bv cs).take (i + 1) ++ List.replicate (cs.length - (i + 1)) (Value.int 0) := by
  have hl : ((bv cs).take i).length = i := by rw [List.length_take, bv_len]; omega
  rw [show cs.length - i = (cs.length - (i + 1)) + 1 by omega, List.replicate_succ, List.set_append_right _ _ (by omega), hl, Nat.sub_self, List.set_cons_zero, List.take_add_one]
  have : (bv cs)[i]? = some (Value.int (cs[i].toInt8.toInt32)) := by simp [bv, h]
  rw [this]
  simp
theorem lat_le {c : Int32} (h : ¬ c < 0 ∧ c < 256) : ¬ (255 : Int32) < c := by
  simp only [Int32.lt_iff_toInt_lt, show (0 : Int32).toInt = 0 from rfl, show (256 : Int32).toInt = 256 from rfl, show (255 : Int32).toInt = 255 from rfl] at h ⊢
  omega
/-- the String a spells cs -/
def Str (Z : State) (h : Heap) (a : Addr) (cs : List Int32) : Prop := SC Z h a (Int32.ofNat cs.length) (bv cs) ∧ Lat cs
theorem Str.ext {Z : State} {h h' : Heap} {a : Addr} {cs : List Int32} (S : Str Z h a cs) (E : Ext h h') : Str Z h' a cs := ⟨S.1.ext E, S.2⟩
theorem Arv.uniq {Z : State} {h : Heap} {a : Addr} {k k' : ClassId} {ty : FieldType} {n n' : Int32} {vs ws : List Value} {d : Value} (A : Arv Z h a k ty n vs d) (B : Arv Z h a k' ty n' ws d) (hv : vs.length = n.toNatClampNeg) (hw : ws.length = n'.toNatClampNeg) : vs = ws := by
  obtain ⟨c, A1, -, A3, -, A5, -⟩ := A
  obtain ⟨c', B1, -, B3, -, B5, -⟩ := B
  cases A1.1.symm.trans B1.1
  apply List.ext_getElem (by omega)
  intro i h1 h2
  have q := (A5 i (by omega)).symm.trans (B5 i (by omega))
  simpa [h1, h2] using q
theorem Str.uniq {Z : State} {h : Heap} {a : Addr} {cs ds : List Int32} (S : Str Z h a cs) (S' : Str Z h a ds) : cs = ds := by
  obtain ⟨⟨-, -, b, k, F, A⟩, l1, l2⟩ := S
  obtain ⟨⟨-, -, b', k', F', A'⟩, l1', l2'⟩ := S'
  have e : b = b' := Classical.byContradiction fun q => Fld.ne F F' (fun z => q (by injection z)) rfl
  subst e
  exact bv_inj l1 l1' (Arv.uniq A A' (by rw [bv_len, own_tn (by omega)]) (by rw [bv_len, own_tn (by omega)]))
theorem Str.keep {Z : State} {a0 : Array Value} {h h' : Heap} {a s : Addr} {C : String} {n : Nat} {cs : List Int32} (S : Str Z h a cs) (K : Keep h h' [s]) (q : a ≠ s) (E : Exa Z h s C) (wi : (Jvm.Cond.instantiable C n).before a0 Z = true) : Str Z h' a cs := by
  obtain ⟨⟨f1, f2, b, k, f3, f4⟩, l⟩ := S
  exact ⟨⟨f1.keep K, f2.keep K (nin1 q), b, k, f3.keep K (nin1 q), f4.keep K (nin1 (Ne.symm (Exa.neArv E f4 wi)))⟩, l⟩
/-! the constants that are loaded -/
def tb (t : String) : List Value := t.toList.map fun c => Value.int (Jvm.Lit.byteI c.toNat.toUInt16)
def CsOk (CS : List (String × Nat × String)) (Z : State) (h : Heap) (L : List (String × Nat × String × Addr)) : Prop := ∀ q ∈ L, (q.1, q.2.1, q.2.2.1) ∈ CS ∧ SC Z h q.2.2.2 (Int32.ofNat (tb q.2.2.1).length) (tb q.2.2.1)
theorem CsOk.nil {CS : List (String × Nat × String)} {Z : State} {h : Heap} : CsOk CS Z h [] := fun q hq => nomatch hq
theorem CsOk.ext {CS : List (String × Nat × String)} {Z : State} {h h' : Heap} {L : List (String × Nat × String × Addr)} (C : CsOk CS Z h L) (E : Ext h h') : CsOk CS Z h' L := fun q hq => ⟨(C q hq).1, (C q hq).2.ext E⟩
theorem CsOk.wr {CS : List (String × Nat × String)} {Z : State} {a0 : Array Value} {h h' : Heap} {L : List (String × Nat × String × Addr)} {s : Addr} {C : String} {n sl : Nat} {v : Value} (K : CsOk CS Z h L) (W : Wr h h' s sl v) (hq : ∀ q ∈ L, q.2.2.2 ≠ s) (E : Exa Z h s C) (wi : (Jvm.Cond.instantiable C n).before a0 Z = true) : CsOk CS Z h' L := fun q hm => ⟨(K q hm).1, (K q hm).2.wr W (hq q hm) E wi⟩
theorem CsOk.has {CS : List (String × Nat × String)} {Z : State} {h : Heap} {L : List (String × Nat × String × Addr)} (K : CsOk CS Z h L) {own text : String} {idx : Nat} (hu : ∀ c ∈ CS, c.2.2 = text → c = (own, idx, text)) : (∃ a, (own, idx, text, a) ∈ L) ∨ text ∉ L.map fun q => q.2.2.1 := by
  by_cases q : text ∈ L.map fun q => q.2.2.1
  · obtain ⟨x, hx, e⟩ := List.mem_map.mp q
    have := hu _ (K x hx).1 e
    obtain ⟨x1, x2, x3, x4⟩ := x
    simp only [Prod.mk.injEq] at this
    obtain ⟨rfl, rfl, rfl⟩ := this
    exact Or.inl ⟨x4, hx⟩
  · exact Or.inr q
theorem CsOk.step {CS : List (String × Nat × String)} {Z : State} {h h' : Heap} {L L' : List (String × Nat × String × Addr)} {own text : String} {idx : Nat} {a : Addr} (K : CsOk CS Z h L) (E : Ext h h') (hm : (own, idx, text) ∈ CS) (hL : L' = L ∨ L' = (own, idx, text, a) :: L) (S : SC Z h' a (Int32.ofNat (tb text).length) (tb text)) : CsOk CS Z h' L' := by
  rcases hL with rfl | rfl
  · exact K.ext E
  · intro q hq
    rcases List.mem_cons.mp hq with rfl | hq
    · exact ⟨hm, S⟩
    · exact (K.ext E) q hq

abbrev CS : List (String × Nat × String) := [("x", 7, "ns")]
theorem wS {Z : State} {a0 : Array Value} (hw : ∀ d ∈ tables_1, d.before a0 Z = true) : ∀ a ∈ Bundle.stringAtoms, a.before a0 Z = true := fun a ha => hw a ((by decide +kernel : ∀ a ∈ Bundle.stringAtoms, a ∈ tables_1) a ha)
theorem own_shr0 (x : Int32) : x >>> ((0 : Int32) &&& 31) = x := by
  apply Int32.toInt_inj.mp
  rw [c_ishr x 0 0 (by decide)]
  simp
theorem byte_back {c : Int32} (h : ¬ c < 0 ∧ c < 256) : (c.toInt8.toInt32 &&& 255) = c := by
  have a := c_i2b c
  have b := c_mask (c.toInt8.toInt32) 255 8 (by decide) (by decide)
  simp only [Int32.lt_iff_toInt_lt, show (0 : Int32).toInt = 0 from rfl, show (256 : Int32).toInt = 256 from rfl] at h
  apply Int32.toInt_inj.mp
  rw [b, show ((2 ^ 8 : Nat) : Int) = 256 from rfl]
  omega
theorem char_nar {c : Int32} (h : ¬ c < 0 ∧ c < 256) : c.toUInt32.toUInt16.toUInt32.toInt32 = c := by
  have e := i2c_mask c.toInt8.toInt32
  rw [byte_back h] at e
  exact e

abbrev y16 : MethodName := ⟨"java/lang/String", "coder", "()B"⟩
theorem d16_0 : decode jdk_42_method_152_code 0 = .ok (.getstatic 38, 3) := by decide +kernel
theorem d16_3 : decode jdk_42_method_152_code 3 = .ok (.ifCond .eq 10, 3) := by decide +kernel
theorem d16_6 : decode jdk_42_method_152_code 6 = .ok (.aload_n 0, 1) := by decide +kernel
theorem d16_7 : decode jdk_42_method_152_code 7 = .ok (.getfield 15, 3) := by decide +kernel
theorem d16_10 : decode jdk_42_method_152_code 10 = .ok (.goto 4, 3) := by decide +kernel
theorem d16_13 : decode jdk_42_method_152_code 13 = .ok (.iconst 1, 1) := by decide +kernel
theorem d16_14 : decode jdk_42_method_152_code 14 = .ok (.ireturn, 1) := by decide +kernel
theorem pd16 : parseMethodDescriptor "()B" = some ⟨[], (some .byte)⟩ := by decide +kernel
theorem pn16 : plainFor y16 = true := by first | exact plainFor_of_name (by first | (simp [plainName, overriddenIn]; done) | decide +kernel) | decide +kernel | rfl
set_option maxRecDepth 65536 in
set_option maxHeartbeats 40000000 in
theorem con_scoder (l : Launch) (Z : State) (a0 : Array Value) (hw : ∀ d ∈ tables_1, d.before a0 Z = true) (h0 : Heap) (n0 : Nat) (σ : Sg) (s : Addr) (F : Fld Z h0 s "java/lang/String" "coder" "B" (.int 0)) (cz : Int32) (hcz : ¬ cz = 0) (O2 : Sta Z Z.heap "java/lang/String" "COMPACT_STRINGS" "Z" (.int cz)) :
    Con l Z y16 jdk_42_method_152_code 1 ((some .byte)) ({ frames := 0, cells := 0, slots := 0, locals := 0 } : Room) [] #[(.ref s)] σ h0 n0 (fun v h τ => h0 = h ∧ σ = τ ∧ v = some (.int 0)) := by
  refine Con.of_go pn16 (ls := #[.val (.ref s)]) (fun m => by first | (simp [entryFrame, mkF, argsToLocals, Value.category]; done) | rfl) ?_
  intro κ D
  refine Go.getS D (pc' := 3) (hw _ (List.mem_of_getElem? (i := 25) rfl)) d16_0 rfl O2 ?_
  refine Go.ifc D (pc' := 13) (pc2 := 6) d16_3 (by decide) (by decide) rfl ?_ ?_
  · intro (hc3 : cz = 0)
    exact absurd hc3 hcz
  · intro (hc3 : ¬ cz = 0)
    refine Go.aloadN D (pc' := 7) d16_6 rfl rfl rfl ?_
    refine Go.getF D (pc' := 10) (hw _ (List.mem_of_getElem? (i := 37) rfl)) d16_7 rfl F ?_
    refine Go.goto D (pc' := 14) d16_10 (by decide) (by decide) ?_
    refine Go.bret D rfl rfl d16_14 (by decide) (by decide) ?_
    exact ⟨rfl, rfl, rfl⟩
abbrev y15 : MethodName := ⟨"java/lang/String", "length", "()I"⟩
theorem d15_0 : decode jdk_42_method_54_code 0 = .ok (.aload_n 0, 1) := by decide +kernel
theorem d15_1 : decode jdk_42_method_54_code 1 = .ok (.getfield 9, 3) := by decide +kernel
theorem d15_4 : decode jdk_42_method_54_code 4 = .ok (.arraylength, 1) := by decide +kernel
theorem d15_5 : decode jdk_42_method_54_code 5 = .ok (.aload_n 0, 1) := by decide +kernel
theorem d15_6 : decode jdk_42_method_54_code 6 = .ok (.invokevirtual 335, 3) := by decide +kernel
theorem d15_9 : decode jdk_42_method_54_code 9 = .ok (.ishr, 1) := by decide +kernel
theorem d15_10 : decode jdk_42_method_54_code 10 = .ok (.ireturn, 1) := by decide +kernel
theorem pd15 : parseMethodDescriptor "()I" = some ⟨[], (some .int)⟩ := by decide +kernel
theorem pn15 : plainFor y15 = true := by first | exact plainFor_of_name (by first | (simp [plainName, overriddenIn]; done) | decide +kernel) | decide +kernel | rfl
set_option maxRecDepth 65536 in
set_option maxHeartbeats 40000000 in
theorem con_slen (l : Launch) (Z : State) (a0 : Array Value) (hw : ∀ d ∈ tables_1, d.before a0 Z = true) (h0 : Heap) (n0 : Nat) (σ : Sg) (s : Addr) (cs : List Int32) (S : Str Z h0 s cs) (cz : Int32) (hcz : ¬ cz = 0) (O2 : Sta Z Z.heap "java/lang/String" "COMPACT_STRINGS" "Z" (.int cz)) :
    Con l Z y15 jdk_42_method_54_code 1 ((some .int)) ({ frames := 1, cells := 0, slots := 0, locals := 13 } : Room) [] #[(.ref s)] σ h0 n0 (fun v h τ => h0 = h ∧ σ = τ ∧ v = some (.int (Int32.ofNat cs.length))) := by
  refine Con.of_go pn15 (ls := #[.val (.ref s)]) (fun m => by first | (simp [entryFrame, mkF, argsToLocals, Value.category]; done) | rfl) ?_
  intro κ D
  obtain ⟨e1, e2, b, kb, e3, e4⟩ := id S.1
  refine Go.aloadN D (pc' := 1) d15_0 rfl rfl rfl ?_
  refine Go.getF D (pc' := 4) (hw _ (List.mem_of_getElem? (i := 39) rfl)) d15_1 rfl e3 ?_
  refine Go.alen D (pc' := 5) d15_4 rfl e4 ?_
  refine Go.aloadN D (pc' := 6) d15_5 rfl rfl rfl ?_
  refine Go.callV D (argsL := []) (rest := [(.int (Int32.ofNat cs.length))]) (pc' := 9) (ce' := 0) (sl' := 0) (con_scoder l Z a0 hw h0 n0 σ s e2 cz hcz O2) (hw _ (List.mem_of_getElem? (i := 73) rfl)) (hw _ (List.mem_of_getElem? (i := 74) rfl)) (hw _ (List.mem_of_getElem? (i := 76) rfl)) (hw _ (List.mem_of_getElem? (i := 75) rfl)) (hw _ (List.mem_of_getElem? (i := 13) rfl)) (hw _ (List.mem_of_getElem? (i := 77) rfl)) (nfS (hw _ (List.mem_of_getElem? (i := 76) rfl))) (by decide) e1 d15_6 rfl pd16 rfl rfl rfl (by decide) (W := 1) rfl (by decide) (by decide) (by decide) (by decide) (by decide) ?_
  intro v6 h6 σ6 q6
  obtain ⟨rfl, rfl, rfl⟩ := q6
  show Go κ σ h0 0 0 9 #[.val (.ref s)] [(.int (0 : Int32)), (.int (Int32.ofNat cs.length))]
  refine Go.ishr D (pc' := 10) d15_9 rfl  ?_
  rw [own_shr0]
  refine Go.iret D rfl d15_10 (by decide) (by decide) ?_
  exact ⟨rfl, rfl, rfl⟩
abbrev y14 : MethodName := ⟨"java/lang/String", "isEmpty", "()Z"⟩
theorem d14_0 : decode jdk_42_method_55_code 0 = .ok (.aload_n 0, 1) := by decide +kernel
theorem d14_1 : decode jdk_42_method_55_code 1 = .ok (.getfield 9, 3) := by decide +kernel
theorem d14_4 : decode jdk_42_method_55_code 4 = .ok (.arraylength, 1) := by decide +kernel
theorem d14_5 : decode jdk_42_method_55_code 5 = .ok (.ifCond .ne 7, 3) := by decide +kernel
theorem d14_8 : decode jdk_42_method_55_code 8 = .ok (.iconst 1, 1) := by decide +kernel
theorem d14_9 : decode jdk_42_method_55_code 9 = .ok (.goto 4, 3) := by decide +kernel
theorem d14_12 : decode jdk_42_method_55_code 12 = .ok (.iconst 0, 1) := by decide +kernel
theorem d14_13 : decode jdk_42_method_55_code 13 = .ok (.ireturn, 1) := by decide +kernel
theorem pd14 : parseMethodDescriptor "()Z" = some ⟨[], (some .boolean)⟩ := by decide +kernel
theorem pn14 : plainFor y14 = true := by first | exact plainFor_of_name (by first | (simp [plainName, overriddenIn]; done) | decide +kernel) | decide +kernel | rfl
set_option maxRecDepth 65536 in
set_option maxHeartbeats 40000000 in
theorem con_sempty (l : Launch) (Z : State) (a0 : Array Value) (hw : ∀ d ∈ tables_1, d.before a0 Z = true) (h0 : Heap) (n0 : Nat) (σ : Sg) (s : Addr) (cs : List Int32) (S : Str Z h0 s cs) :
    Con l Z y14 jdk_42_method_55_code 1 ((some .boolean)) ({ frames := 0, cells := 0, slots := 0, locals := 0 } : Room) [] #[(.ref s)] σ h0 n0 (fun v h τ => h0 = h ∧ σ = τ ∧ ∃ r, v = some (.int r) ∧ ((r = 1 ∧ cs = []) ∨ (r = 0 ∧ ¬ cs = []))) := by
  refine Con.of_go pn14 (ls := #[.val (.ref s)]) (fun m => by first | (simp [entryFrame, mkF, argsToLocals, Value.category]; done) | rfl) ?_
  intro κ D
  obtain ⟨e1, e2, b, kb, e3, e4⟩ := id S.1
  have hl := S.2.2
  refine Go.aloadN D (pc' := 1) d14_0 rfl rfl rfl ?_
  refine Go.getF D (pc' := 4) (hw _ (List.mem_of_getElem? (i := 39) rfl)) d14_1 rfl e3 ?_
  refine Go.alen D (pc' := 5) d14_4 rfl e4 ?_
  refine Go.ifc D (pc' := 12) (pc2 := 8) d14_5 (by decide) (by decide) rfl ?_ ?_
  · intro (hc5 : ¬ (Int32.ofNat cs.length) = 0)
    refine Go.iconst D (pc' := 13) d14_12 rfl (v := (0 : Int32)) rfl ?_
    refine Go.zret D rfl rfl d14_13 (by decide) (by decide) ?_
    exact ⟨rfl, rfl, _, rfl, Or.inr ⟨rfl, fun z => hc5 (by rw [z]; rfl)⟩⟩
  · intro (hc5 : (Int32.ofNat cs.length) = 0)
    refine Go.iconst D (pc' := 9) d14_8 rfl (v := (1 : Int32)) rfl ?_
    refine Go.goto D (pc' := 13) d14_9 (by decide) (by decide) ?_
    refine Go.zret D rfl rfl d14_13 (by decide) (by decide) ?_
    exact ⟨rfl, rfl, _, rfl, Or.inl ⟨rfl, List.eq_nil_of_length_eq_zero (own_inj (j := 0) (by omega) (by omega) hc5)⟩⟩

abbrev y19 : MethodName := ⟨"java/lang/String", "isLatin1", "()Z"⟩
theorem d19_0 : decode jdk_42_method_154_code 0 = .ok (.getstatic 38, 3) := by decide +kernel
theorem d19_3 : decode jdk_42_method_154_code 3 = .ok (.ifCond .eq 14, 3) := by decide +kernel
theorem d19_6 : decode jdk_42_method_154_code 6 = .ok (.aload_n 0, 1) := by decide +kernel
theorem d19_7 : decode jdk_42_method_154_code 7 = .ok (.getfield 15, 3) := by decide +kernel
theorem d19_10 : decode jdk_42_method_154_code 10 = .ok (.ifCond .ne 7, 3) := by decide +kernel
theorem d19_13 : decode jdk_42_method_154_code 13 = .ok (.iconst 1, 1) := by decide +kernel
theorem d19_14 : decode jdk_42_method_154_code 14 = .ok (.goto 4, 3) := by decide +kernel
theorem d19_17 : decode jdk_42_method_154_code 17 = .ok (.iconst 0, 1) := by decide +kernel
theorem d19_18 : decode jdk_42_method_154_code 18 = .ok (.ireturn, 1) := by decide +kernel
theorem pd19 : parseMethodDescriptor "()Z" = some ⟨[], (some .boolean)⟩ := by decide +kernel
theorem pn19 : plainFor y19 = true := by first | exact plainFor_of_name (by first | (simp [plainName, overriddenIn]; done) | decide +kernel) | decide +kernel | rfl
set_option maxRecDepth 65536 in
set_option maxHeartbeats 40000000 in
theorem con_sisl (l : Launch) (Z : State) (a0 : Array Value) (hw : ∀ d ∈ tables_1, d.before a0 Z = true) (h0 : Heap) (n0 : Nat) (σ : Sg) (s : Addr) (F : Fld Z h0 s "java/lang/String" "coder" "B" (.int 0)) (cz : Int32) (hcz : ¬ cz = 0) (O2 : Sta Z Z.heap "java/lang/String" "COMPACT_STRINGS" "Z" (.int cz)) :
    Con l Z y19 jdk_42_method_154_code 1 ((some .boolean)) ({ frames := 0, cells := 0, slots := 0, locals := 0 } : Room) [] #[(.ref s)] σ h0 n0 (fun v h τ => h0 = h ∧ σ = τ ∧ v = some (.int 1)) := by
  refine Con.of_go pn19 (ls := #[.val (.ref s)]) (fun m => by first | (simp [entryFrame, mkF, argsToLocals, Value.category]; done) | rfl) ?_
  intro κ D
  refine Go.getS D (pc' := 3) (hw _ (List.mem_of_getElem? (i := 25) rfl)) d19_0 rfl O2 ?_
  refine Go.ifc D (pc' := 17) (pc2 := 6) d19_3 (by decide) (by decide) rfl ?_ ?_
  · intro (hc3 : cz = 0)
    exact absurd hc3 hcz
  · intro (hc3 : ¬ cz = 0)
    refine Go.aloadN D (pc' := 7) d19_6 rfl rfl rfl ?_
    refine Go.getF D (pc' := 10) (hw _ (List.mem_of_getElem? (i := 37) rfl)) d19_7 rfl F ?_
    refine Go.ifc D (pc' := 17) (pc2 := 13) d19_10 (by decide) (by decide) rfl (fun (hc : ¬ (0 : Int32) = 0) => absurd hc (by decide)) (fun _ => ?_)
    refine Go.iconst D (pc' := 14) d19_13 rfl (v := (1 : Int32)) rfl ?_
    refine Go.goto D (pc' := 18) d19_14 (by decide) (by decide) ?_
    refine Go.zret D rfl rfl d19_18 (by decide) (by decide) ?_
    exact ⟨rfl, rfl, rfl⟩
abbrev y22 : MethodName := ⟨"jdk/internal/util/Preconditions", "checkIndex", "(IILjava/util/function/BiFunction;)I"⟩
theorem d22_0 : decode jdk_41_method_11_code 0 = .ok (.iload_n 0, 1) := by decide +kernel
theorem d22_1 : decode jdk_41_method_11_code 1 = .ok (.ifCond .lt 8, 3) := by decide +kernel
theorem d22_4 : decode jdk_41_method_11_code 4 = .ok (.iload_n 0, 1) := by decide +kernel
theorem d22_5 : decode jdk_41_method_11_code 5 = .ok (.iload_n 1, 1) := by decide +kernel
theorem d22_6 : decode jdk_41_method_11_code 6 = .ok (.if_icmp .lt 10, 3) := by decide +kernel
theorem d22_16 : decode jdk_41_method_11_code 16 = .ok (.iload_n 0, 1) := by decide +kernel
theorem d22_17 : decode jdk_41_method_11_code 17 = .ok (.ireturn, 1) := by decide +kernel
theorem pd22 : parseMethodDescriptor "(IILjava/util/function/BiFunction;)I" = some ⟨[.int, .int, (.object "java/util/function/BiFunction")], (some .int)⟩ := by decide +kernel
theorem pn22 : plainFor y22 = true := by first | exact plainFor_of_name (by first | (simp [plainName, overriddenIn]; done) | decide +kernel) | decide +kernel | rfl
set_option maxRecDepth 65536 in
set_option maxHeartbeats 40000000 in
theorem con_chkN (l : Launch) (Z : State) (a0 : Array Value) (hw : ∀ d ∈ tables_1, d.before a0 Z = true) (h0 : Heap) (n0 : Nat) (σ : Sg) (i n : Int32) (h1 : ¬ i < 0) (h2 : i < n) :
    Con l Z y22 jdk_41_method_11_code 3 ((some .int)) ({ frames := 0, cells := 0, slots := 0, locals := 0 } : Room) [] #[(.int i), (.int n), (.null)] σ h0 n0 (fun v h τ => h0 = h ∧ σ = τ ∧ v = some (.int i)) := by
  refine Con.of_go pn22 (ls := #[.val (.int i), .val (.int n), .val (.null)]) (fun m => by first | (simp [entryFrame, mkF, argsToLocals, Value.category]; done) | rfl) ?_
  intro κ D
  refine Go.iloadN D (pc' := 1) d22_0 rfl rfl ?_
  refine Go.ifc D (pc' := 9) (pc2 := 4) d22_1 (by decide) (by decide) rfl ?_ ?_
  · intro (hc1 : i < 0)
    exact absurd hc1 h1
  · intro (hc1 : ¬ i < 0)
    refine Go.iloadN D (pc' := 5) d22_4 rfl rfl ?_
    refine Go.iloadN D (pc' := 6) d22_5 rfl rfl ?_
    refine Go.icmp D (pc' := 16) (pc2 := 9) d22_6 (by decide) (by decide) rfl ?_ ?_
    · intro (hc6 : i < n)
      refine Go.iloadN D (pc' := 17) d22_16 rfl rfl ?_
      refine Go.iret D rfl d22_17 (by decide) (by decide) ?_
      exact ⟨rfl, rfl, rfl⟩
    · intro (hc6 : ¬ i < n)
      exact absurd h2 hc6
set_option maxRecDepth 65536 in
set_option maxHeartbeats 40000000 in
theorem con_chkR (l : Launch) (Z : State) (a0 : Array Value) (hw : ∀ d ∈ tables_1, d.before a0 Z = true) (h0 : Heap) (n0 : Nat) (σ : Sg) (i n : Int32) (h1 : ¬ i < 0) (h2 : i < n) (fa : Addr) :
    Con l Z y22 jdk_41_method_11_code 3 ((some .int)) ({ frames := 0, cells := 0, slots := 0, locals := 0 } : Room) [] #[(.int i), (.int n), (.ref fa)] σ h0 n0 (fun v h τ => h0 = h ∧ σ = τ ∧ v = some (.int i)) := by
  refine Con.of_go pn22 (ls := #[.val (.int i), .val (.int n), .val (.ref fa)]) (fun m => by first | (simp [entryFrame, mkF, argsToLocals, Value.category]; done) | rfl) ?_
  intro κ D
  refine Go.iloadN D (pc' := 1) d22_0 rfl rfl ?_
  refine Go.ifc D (pc' := 9) (pc2 := 4) d22_1 (by decide) (by decide) rfl ?_ ?_
  · intro (hc1 : i < 0)
    exact absurd hc1 h1
  · intro (hc1 : ¬ i < 0)
    refine Go.iloadN D (pc' := 5) d22_4 rfl rfl ?_
    refine Go.iloadN D (pc' := 6) d22_5 rfl rfl ?_
    refine Go.icmp D (pc' := 16) (pc2 := 9) d22_6 (by decide) (by decide) rfl ?_ ?_
    · intro (hc6 : i < n)
      refine Go.iloadN D (pc' := 17) d22_16 rfl rfl ?_
      refine Go.iret D rfl d22_17 (by decide) (by decide) ?_
      exact ⟨rfl, rfl, rfl⟩
    · intro (hc6 : ¬ i < n)
      exact absurd h2 hc6
abbrev y21 : MethodName := ⟨"java/lang/String", "checkIndex", "(II)V"⟩
theorem d21_0 : decode jdk_42_method_155_code 0 = .ok (.iload_n 0, 1) := by decide +kernel
theorem d21_1 : decode jdk_42_method_155_code 1 = .ok (.iload_n 1, 1) := by decide +kernel
theorem d21_2 : decode jdk_42_method_155_code 2 = .ok (.getstatic 1053, 3) := by decide +kernel
theorem d21_5 : decode jdk_42_method_155_code 5 = .ok (.invokestatic 1059, 3) := by decide +kernel
theorem d21_8 : decode jdk_42_method_155_code 8 = .ok (.pop, 1) := by decide +kernel
theorem d21_9 : decode jdk_42_method_155_code 9 = .ok (.return_, 1) := by decide +kernel
theorem pd21 : parseMethodDescriptor "(II)V" = some ⟨[.int, .int], none⟩ := by decide +kernel
theorem pn21 : plainFor y21 = true := by first | exact plainFor_of_name (by first | (simp [plainName, overriddenIn]; done) | decide +kernel) | decide +kernel | rfl
set_option maxRecDepth 65536 in
set_option maxHeartbeats 40000000 in
theorem con_sci (l : Launch) (Z : State) (a0 : Array Value) (hw : ∀ d ∈ tables_1, d.before a0 Z = true) (h0 : Heap) (n0 : Nat) (σ : Sg) (i n : Int32) (h1 : ¬ i < 0) (h2 : i < n) (fm : Value) (rf : fm.isRef = true) (O4 : Sta Z Z.heap "jdk/internal/util/Preconditions" "SIOOBE_FORMATTER" "Ljava/util/function/BiFunction;" fm) :
    Con l Z y21 jdk_42_method_155_code 2 none ({ frames := 1, cells := 0, slots := 0, locals := 14 } : Room) [] #[(.int i), (.int n)] σ h0 n0 (fun v h τ => h0 = h ∧ σ = τ ∧ v = none) := by
  refine Con.of_go pn21 (ls := #[.val (.int i), .val (.int n)]) (fun m => by first | (simp [entryFrame, mkF, argsToLocals, Value.category]; done) | rfl) ?_
  intro κ D
  rcases ref_cases rf with rfl | ⟨fa, rfl⟩
  · skip
    refine Go.iloadN D (pc' := 1) d21_0 rfl rfl ?_
    refine Go.iloadN D (pc' := 2) d21_1 rfl rfl ?_
    refine Go.getS D (pc' := 5) (hw _ (List.mem_of_getElem? (i := 98) rfl)) d21_2 rfl O4 ?_
    refine Go.callS D (argsL := [(.int i), (.int n), (.null)]) (rest := []) (pc' := 8) (ce' := 0) (sl' := 0) (con_chkN l Z a0 hw h0 n0 σ i n h1 h2) (hw _ (List.mem_of_getElem? (i := 100) rfl)) (hw _ (List.mem_of_getElem? (i := 101) rfl)) (hw _ (List.mem_of_getElem? (i := 99) rfl)) (hw _ (List.mem_of_getElem? (i := 102) rfl)) (by decide) d21_5 rfl pd22 rfl rfl rfl (by decide) (W := 0) rfl (by decide) (by decide) (by decide) (by decide) (by decide) ?_
    intro v5 h5 σ5 q5
    obtain ⟨rfl, rfl, rfl⟩ := q5
    show Go κ σ h0 0 0 8 #[.val (.int i), .val (.int n)] [(.int i)]
    refine Go.pop D (pc' := 9) d21_8 rfl rfl ?_
    refine Go.vret D rfl d21_9 (by decide) (by decide) ?_
    exact ⟨rfl, rfl, rfl⟩
  · skip
    refine Go.iloadN D (pc' := 1) d21_0 rfl rfl ?_
    refine Go.iloadN D (pc' := 2) d21_1 rfl rfl ?_
    refine Go.getS D (pc' := 5) (hw _ (List.mem_of_getElem? (i := 98) rfl)) d21_2 rfl O4 ?_
    refine Go.callS D (argsL := [(.int i), (.int n), (.ref fa)]) (rest := []) (pc' := 8) (ce' := 0) (sl' := 0) (con_chkR l Z a0 hw h0 n0 σ i n h1 h2 fa) (hw _ (List.mem_of_getElem? (i := 100) rfl)) (hw _ (List.mem_of_getElem? (i := 101) rfl)) (hw _ (List.mem_of_getElem? (i := 99) rfl)) (hw _ (List.mem_of_getElem? (i := 102) rfl)) (by decide) d21_5 rfl pd22 rfl rfl rfl (by decide) (W := 0) rfl (by decide) (by decide) (by decide) (by decide) (by decide) ?_
    intro v5 h5 σ5 q5
    obtain ⟨rfl, rfl, rfl⟩ := q5
    show Go κ σ h0 0 0 8 #[.val (.int i), .val (.int n)] [(.int i)]
    refine Go.pop D (pc' := 9) d21_8 rfl rfl ?_
    refine Go.vret D rfl d21_9 (by decide) (by decide) ?_
    exact ⟨rfl, rfl, rfl⟩
abbrev y20 : MethodName := ⟨"java/lang/StringLatin1", "charAt", "([BI)C"⟩
theorem d20_0 : decode jdk_43_method_2_code 0 = .ok (.iload_n 1, 1) := by decide +kernel
theorem d20_1 : decode jdk_43_method_2_code 1 = .ok (.aload_n 0, 1) := by decide +kernel
theorem d20_2 : decode jdk_43_method_2_code 2 = .ok (.arraylength, 1) := by decide +kernel
theorem d20_3 : decode jdk_43_method_2_code 3 = .ok (.invokestatic 9, 3) := by decide +kernel
theorem d20_6 : decode jdk_43_method_2_code 6 = .ok (.aload_n 0, 1) := by decide +kernel
theorem d20_7 : decode jdk_43_method_2_code 7 = .ok (.iload_n 1, 1) := by decide +kernel
theorem d20_8 : decode jdk_43_method_2_code 8 = .ok (.baload, 1) := by decide +kernel
theorem d20_9 : decode jdk_43_method_2_code 9 = .ok (.sipush 255, 3) := by decide +kernel
theorem d20_12 : decode jdk_43_method_2_code 12 = .ok (.iand, 1) := by decide +kernel
theorem d20_13 : decode jdk_43_method_2_code 13 = .ok (.i2c, 1) := by decide +kernel
theorem d20_14 : decode jdk_43_method_2_code 14 = .ok (.ireturn, 1) := by decide +kernel
theorem pd20 : parseMethodDescriptor "([BI)C" = some ⟨[(.array .byte), .int], (some .char)⟩ := by decide +kernel
theorem pn20 : plainFor y20 = true := by first | exact plainFor_of_name (by first | (simp [plainName, overriddenIn]; done) | decide +kernel) | decide +kernel | rfl
set_option maxRecDepth 65536 in
set_option maxHeartbeats 40000000 in
theorem con_lch (l : Launch) (Z : State) (a0 : Array Value) (hw : ∀ d ∈ tables_1, d.before a0 Z = true) (h0 : Heap) (n0 : Nat) (σ : Sg) (b : Addr) (kb : ClassId) (cs : List Int32) (B : Arv Z h0 b kb .byte (Int32.ofNat cs.length) (bv cs) (.int 0)) (hp : Lat cs) (i : Nat) (hi : i < cs.length) (fm : Value) (rf : fm.isRef = true) (O4 : Sta Z Z.heap "jdk/internal/util/Preconditions" "SIOOBE_FORMATTER" "Ljava/util/function/BiFunction;" fm) :
    Con l Z y20 jdk_43_method_2_code 2 ((some .char)) ({ frames := 2, cells := 0, slots := 0, locals := 28 } : Room) [] #[(.ref b), (.int (Int32.ofNat i))] σ h0 n0 (fun v h τ => h0 = h ∧ σ = τ ∧ v = some (.int cs[i])) := by
  refine Con.of_go pn20 (ls := #[.val (.ref b), .val (.int (Int32.ofNat i))]) (fun m => by first | (simp [entryFrame, mkF, argsToLocals, Value.category]; done) | rfl) ?_
  intro κ D
  have hl := hp.2
  refine Go.iloadN D (pc' := 1) d20_0 rfl rfl ?_
  refine Go.aloadN D (pc' := 2) d20_1 rfl rfl rfl ?_
  refine Go.alen D (pc' := 3) d20_2 rfl B ?_
  refine Go.callS D (argsL := [(.int (Int32.ofNat i)), (.int (Int32.ofNat cs.length))]) (rest := []) (pc' := 6) (ce' := 0) (sl' := 0) (con_sci l Z a0 hw h0 n0 σ (Int32.ofNat i) (Int32.ofNat cs.length) (own_nn (by omega)) ((own_lt (by omega) (by omega)).mpr hi) fm rf O4) (hw _ (List.mem_of_getElem? (i := 95) rfl)) (hw _ (List.mem_of_getElem? (i := 96) rfl)) (hw _ (List.mem_of_getElem? (i := 13) rfl)) (hw _ (List.mem_of_getElem? (i := 97) rfl)) (by decide) d20_3 rfl pd21 rfl rfl rfl (by decide) (W := 0) rfl (by decide) (by decide) (by decide) (by decide) (by decide) ?_
  intro v3 h3 σ3 q3
  obtain ⟨rfl, rfl, rfl⟩ := q3
  show Go κ σ h0 0 0 6 #[.val (.ref b), .val (.int (Int32.ofNat i))] []
  refine Go.aloadN D (pc' := 7) d20_6 rfl rfl rfl ?_
  refine Go.iloadN D (pc' := 8) d20_7 rfl rfl ?_
  refine Go.baload D (pc' := 9) d20_8 rfl B (own_nn (by omega)) ((own_lt (by omega) (by omega)).mpr hi) (v := .int (cs[i].toInt8.toInt32)) (by rw [own_tn (by omega)]; exact bv_at hi _) ?_
  refine Go.sipush D (pc' := 12) d20_9 rfl (v := (255 : Int32)) rfl ?_
  refine Go.iand D (pc' := 13) d20_12 rfl  ?_
  refine Go.i2c D (pc' := 14) d20_13 rfl  ?_
  rw [i2c_mask, byte_back (hp.1 _ (List.getElem_mem hi))]
  refine Go.cret D rfl (congrArg Value.int (char_nar (hp.1 _ (List.getElem_mem hi)))) d20_14 (by decide) (by decide) ?_
  exact ⟨rfl, rfl, rfl⟩
abbrev y18 : MethodName := ⟨"java/lang/String", "charAt", "(I)C"⟩
theorem d18_0 : decode jdk_42_method_56_code 0 = .ok (.aload_n 0, 1) := by decide +kernel
theorem d18_1 : decode jdk_42_method_56_code 1 = .ok (.invokevirtual 492, 3) := by decide +kernel
theorem d18_4 : decode jdk_42_method_56_code 4 = .ok (.ifCond .eq 12, 3) := by decide +kernel
theorem d18_7 : decode jdk_42_method_56_code 7 = .ok (.aload_n 0, 1) := by decide +kernel
theorem d18_8 : decode jdk_42_method_56_code 8 = .ok (.getfield 9, 3) := by decide +kernel
theorem d18_11 : decode jdk_42_method_56_code 11 = .ok (.iload_n 1, 1) := by decide +kernel
theorem d18_12 : decode jdk_42_method_56_code 12 = .ok (.invokestatic 495, 3) := by decide +kernel
theorem d18_15 : decode jdk_42_method_56_code 15 = .ok (.ireturn, 1) := by decide +kernel
theorem pd18 : parseMethodDescriptor "(I)C" = some ⟨[.int], (some .char)⟩ := by decide +kernel
theorem pn18 : plainFor y18 = true := by first | exact plainFor_of_name (by first | (simp [plainName, overriddenIn]; done) | decide +kernel) | decide +kernel | rfl
set_option maxRecDepth 65536 in
set_option maxHeartbeats 40000000 in
theorem con_chAt (l : Launch) (Z : State) (a0 : Array Value) (hw : ∀ d ∈ tables_1, d.before a0 Z = true) (h0 : Heap) (n0 : Nat) (σ : Sg) (s : Addr) (cs : List Int32) (S : Str Z h0 s cs) (i : Nat) (hi : i < cs.length) (cz : Int32) (hcz : ¬ cz = 0) (O2 : Sta Z Z.heap "java/lang/String" "COMPACT_STRINGS" "Z" (.int cz)) (fm : Value) (rf : fm.isRef = true) (O4 : Sta Z Z.heap "jdk/internal/util/Preconditions" "SIOOBE_FORMATTER" "Ljava/util/function/BiFunction;" fm) :
    Con l Z y18 jdk_42_method_56_code 2 ((some .char)) ({ frames := 3, cells := 0, slots := 0, locals := 42 } : Room) [] #[(.ref s), (.int (Int32.ofNat i))] σ h0 n0 (fun v h τ => h0 = h ∧ σ = τ ∧ v = some (.int cs[i])) := by
  refine Con.of_go pn18 (ls := #[.val (.ref s), .val (.int (Int32.ofNat i))]) (fun m => by first | (simp [entryFrame, mkF, argsToLocals, Value.category]; done) | rfl) ?_
  intro κ D
  obtain ⟨e1, e2, b, kb, e3, e4⟩ := id S.1
  refine Go.aloadN D (pc' := 1) d18_0 rfl rfl rfl ?_
  refine Go.callV D (argsL := []) (rest := []) (pc' := 4) (ce' := 0) (sl' := 0) (con_sisl l Z a0 hw h0 n0 σ s e2 cz hcz O2) (hw _ (List.mem_of_getElem? (i := 86) rfl)) (hw _ (List.mem_of_getElem? (i := 87) rfl)) (hw _ (List.mem_of_getElem? (i := 89) rfl)) (hw _ (List.mem_of_getElem? (i := 88) rfl)) (hw _ (List.mem_of_getElem? (i := 13) rfl)) (hw _ (List.mem_of_getElem? (i := 90) rfl)) (nfS (hw _ (List.mem_of_getElem? (i := 89) rfl))) (by decide) e1 d18_1 rfl pd19 rfl rfl rfl (by decide) (W := 0) rfl (by decide) (by decide) (by decide) (by decide) (by decide) ?_
  intro v1 h1 σ1 q1
  obtain ⟨rfl, rfl, rfl⟩ := q1
  show Go κ σ h0 0 0 4 #[.val (.ref s), .val (.int (Int32.ofNat i))] [(.int (1 : Int32))]
  refine Go.ifc D (pc' := 16) (pc2 := 7) d18_4 (by decide) (by decide) rfl (fun (hc : (1 : Int32) = 0) => absurd hc (by decide)) (fun _ => ?_)
  refine Go.aloadN D (pc' := 8) d18_7 rfl rfl rfl ?_
  refine Go.getF D (pc' := 11) (hw _ (List.mem_of_getElem? (i := 39) rfl)) d18_8 rfl e3 ?_
  refine Go.iloadN D (pc' := 12) d18_11 rfl rfl ?_
  refine Go.callS D (argsL := [(.ref b), (.int (Int32.ofNat i))]) (rest := []) (pc' := 15) (ce' := 0) (sl' := 0) (con_lch l Z a0 hw h0 n0 σ b kb cs e4 S.2 i hi fm rf O4) (hw _ (List.mem_of_getElem? (i := 91) rfl)) (hw _ (List.mem_of_getElem? (i := 92) rfl)) (hw _ (List.mem_of_getElem? (i := 93) rfl)) (hw _ (List.mem_of_getElem? (i := 94) rfl)) (by decide) d18_12 rfl pd20 rfl rfl rfl (by decide) (W := 0) rfl (by decide) (by decide) (by decide) (by decide) (by decide) ?_
  intro v12 h12 σ12 q12
  obtain ⟨rfl, rfl, rfl⟩ := q12
  show Go κ σ h0 0 0 15 #[.val (.ref s), .val (.int (Int32.ofNat i))] [(.int cs[i])]
  refine Go.cret D rfl (congrArg Value.int (char_nar (S.2.1 _ (List.getElem_mem hi)))) d18_15 (by decide) (by decide) ?_
  exact ⟨rfl, rfl, rfl⟩
def TokC (c : Int32) : Prop := (¬ c < 65 ∧ ¬ 90 < c) ∨ (¬ c < 97 ∧ ¬ 122 < c) ∨ (¬ c < 48 ∧ ¬ 57 < c) ∨ c = 95 ∨ c = 46 ∨ c = 45
theorem TokC.lat {c : Int32} (h : TokC c) : ¬ c < 0 ∧ c < 256 := by
  unfold TokC at h
  simp only [Int32.lt_iff_toInt_lt, ← Int32.toInt_inj, show (65 : Int32).toInt = 65 from rfl, show (90 : Int32).toInt = 90 from rfl, show (97 : Int32).toInt = 97 from rfl, show (122 : Int32).toInt = 122 from rfl, show (48 : Int32).toInt = 48 from rfl, show (57 : Int32).toInt = 57 from rfl, show (95 : Int32).toInt = 95 from rfl, show (46 : Int32).toInt = 46 from rfl, show (45 : Int32).toInt = 45 from rfl, show (0 : Int32).toInt = 0 from rfl, show (256 : Int32).toInt = 256 from rfl] at h ⊢
  omega

def IdC (c : Int32) : Prop := ¬ c < 32 ∧ c < 256 ∧ ¬ c = 127
theorem IdC.lat {c : Int32} (h : IdC c) : ¬ c < 0 ∧ c < 256 := by
  obtain ⟨h1, h2, -⟩ := h
  refine ⟨fun q => h1 (Int32.lt_trans q (by decide)), h2⟩
theorem or_tab : ∀ i : Fin 32, (Int32.ofNat i.1 ||| 64) = Int32.ofNat (i.1 + 64) := by decide
theorem or64 {k : Int32} (h0 : 0 ≤ k.toInt) (h : k < 32) : (k ||| 64).toInt = k.toInt + 64 := by
  rw [Int32.lt_iff_toInt_lt, show (32 : Int32).toInt = 32 from rfl] at h
  have hi : k.toInt.toNat < 32 := by omega
  have hx : k = Int32.ofNat k.toInt.toNat := Int32.toInt_inj.mp (by rw [own_ti (by omega)]; omega)
  have e := or_tab ⟨k.toInt.toNat, hi⟩
  rw [← hx] at e
  rw [e, own_ti (by show k.toInt.toNat + 64 < _; omega)]
  show ((k.toInt.toNat + 64 : Nat) : Int) = _
  omega

def C16 (c : Int32) : Prop := ¬ c < 0 ∧ c < 65536
def IdW (c : Int32) : Prop := ¬ c < 32 ∧ c < 65536 ∧ ¬ c = 127 ∧ ¬ (¬ c < 55296 ∧ ¬ 57343 < c)
theorem IdW.c16 {c : Int32} (h : IdW c) : C16 c := ⟨fun q => h.1 (Int32.lt_trans q (by decide)), h.2.1⟩
theorem IdW.idc {c : Int32} (h : IdW c) (q : c < 256) : IdC c := ⟨h.1, q, h.2.2.1⟩
theorem TokC.c16 {c : Int32} (h : TokC c) : C16 c := ⟨h.lat.1, Int32.lt_trans h.lat.2 (by decide)⟩
theorem char16_nar {c : Int32} (h : C16 c) : c.toUInt32.toUInt16.toUInt32.toInt32 = c := by
  have a := c_i2c c
  obtain ⟨h1, h2⟩ := h
  simp only [Int32.lt_iff_toInt_lt, show (0 : Int32).toInt = 0 from rfl, show (8 : Int32).toInt = 8 from rfl, show (32 : Int32).toInt = 32 from rfl, show (64 : Int32).toInt = 64 from rfl, show (127 : Int32).toInt = 127 from rfl, show (255 : Int32).toInt = 255 from rfl, show (256 : Int32).toInt = 256 from rfl, show (65536 : Int32).toInt = 65536 from rfl, show (55296 : Int32).toInt = 55296 from rfl, show (56320 : Int32).toInt = 56320 from rfl, show (57343 : Int32).toInt = 57343 from rfl, show (57344 : Int32).toInt = 57344 from rfl, show (16384 : Int32).toInt = 16384 from rfl] at h1 h2
  apply Int32.toInt_inj.mp
  omega
theorem own_shl0 (x : Int32) : x <<< ((0 : Int32) &&& 31) = x := by
  have : ((0 : Int32) &&& 31) = 0 := by decide
  rw [this]; simp
theorem gch {c : Int32} (h : C16 c) : (((c.toInt8.toInt32 &&& (255 : Int32)) <<< ((0 : Int32) &&& 31)) ||| ((((c >>> ((8 : Int32) &&& 31)).toInt8.toInt32) &&& (255 : Int32)) <<< ((8 : Int32) &&& 31))) = c := by
  rw [own_shl0]
  obtain ⟨h1, h2⟩ := h
  simp only [Int32.lt_iff_toInt_lt, show (0 : Int32).toInt = 0 from rfl, show (8 : Int32).toInt = 8 from rfl, show (32 : Int32).toInt = 32 from rfl, show (64 : Int32).toInt = 64 from rfl, show (127 : Int32).toInt = 127 from rfl, show (255 : Int32).toInt = 255 from rfl, show (256 : Int32).toInt = 256 from rfl, show (65536 : Int32).toInt = 65536 from rfl, show (55296 : Int32).toInt = 55296 from rfl, show (56320 : Int32).toInt = 56320 from rfl, show (57343 : Int32).toInt = 57343 from rfl, show (57344 : Int32).toInt = 57344 from rfl, show (16384 : Int32).toInt = 16384 from rfl] at h1 h2
  have a1 := c_i2b c
  have a2 := c_mask (c.toInt8.toInt32) 255 8 (by decide) (by decide)
  have b0 := c_ishr c 8 8 (by decide)
  obtain ⟨d, hd⟩ : ∃ d, d = (c >>> ((8 : Int32) &&& 31)) := ⟨_, rfl⟩
  rw [← hd] at b0 ⊢
  have b1 := c_i2b d
  have b2 := c_mask (d.toInt8.toInt32) 255 8 (by decide) (by decide)
  obtain ⟨L, hL⟩ : ∃ L, L = (c.toInt8.toInt32 &&& (255 : Int32)) := ⟨_, rfl⟩
  obtain ⟨M, hM⟩ : ∃ M, M = (d.toInt8.toInt32 &&& (255 : Int32)) := ⟨_, rfl⟩
  rw [← hL] at a2 ⊢
  rw [← hM] at b2 ⊢
  have b3 := c_ishl M 8 8 (by decide)
  obtain ⟨S, hS⟩ : ∃ S, S = (M <<< ((8 : Int32) &&& 31)) := ⟨_, rfl⟩
  rw [← hS] at b3 ⊢
  have r1 := rng32 S
  have e2 : ((2 ^ 8 : Nat) : Int) = 256 := rfl
  rw [e2] at a2 b0 b2 b3
  have eS : S.toInt = M.toInt * 256 := by omega
  have c1 := c_or' L S 8 (by decide) 256 rfl (by omega) (by omega) (by omega)
  have r2 := rng32 (L ||| S)
  apply Int32.toInt_inj.mp
  omega
def ubl : List Int32 → List Int32
  | [] => []
  | c :: cs => c.toInt8.toInt32 :: (c >>> ((8 : Int32) &&& 31)).toInt8.toInt32 :: ubl cs
theorem ubl_len (cs : List Int32) : (ubl cs).length = 2 * cs.length := by
  induction cs with
  | nil => rfl
  | cons c cs ih => simp only [ubl, List.length_cons, ih]; omega
theorem ub_at {cs : List Int32} : ∀ {i : Nat} (h : i < cs.length), (ubl cs)[2 * i]? = some (cs[i].toInt8.toInt32) ∧ (ubl cs)[2 * i + 1]? = some ((cs[i] >>> ((8 : Int32) &&& 31)).toInt8.toInt32) := by
  induction cs with
  | nil => intro i h; simp at h
  | cons c cs ih =>
    intro i h
    cases i with
    | zero => exact ⟨rfl, rfl⟩
    | succ i => exact ih (i := i) (by simpa using h)
theorem ub_lo {cs : List Int32} {i : Nat} (h : i < cs.length) (d : Value) : ((ubl cs).map Value.int).getD (2 * i) d = .int (cs[i].toInt8.toInt32) := by
  rw [List.getD_eq_getElem?_getD, List.getElem?_map, (ub_at h).1]; rfl
theorem ub_hi {cs : List Int32} {i : Nat} (h : i < cs.length) (d : Value) : ((ubl cs).map Value.int).getD (2 * i + 1) d = .int ((cs[i] >>> ((8 : Int32) &&& 31)).toInt8.toInt32) := by
  rw [List.getD_eq_getElem?_getD, List.getElem?_map, (ub_at h).2]; rfl
theorem ubl_app (a b : List Int32) : ubl (a ++ b) = ubl a ++ ubl b := by
  induction a with
  | nil => rfl
  | cons c a ih => simp only [List.cons_append, ubl, ih]
theorem set2_app (xs ys : List Value) (a b p q : Value) (n : Nat) (hn : xs.length = n) : ((xs ++ a :: b :: ys).set n p).set (n + 1) q = xs ++ p :: q :: ys := by
  subst hn
  rw [List.set_append_right _ _ (Nat.le_refl _), Nat.sub_self, List.set_cons_zero, List.set_append_right _ _ (by omega), show xs.length + 1 - xs.length = 1 by omega]
  rfl
theorem ub_set {cs : List Int32} {i : Nat} (h : i < cs.length) : (((ubl (cs.take i)).map Value.int ++ List.replicate (2 * cs.length - 2 * i) (Value.int 0)).set (2 * i) (.int (cs[i].toInt8.toInt32))).set (2 * i + 1) (.int ((cs[i] >>> ((8 : Int32) &&& 31)).toInt8.toInt32)) = (ubl (cs.take (i + 1))).map Value.int ++ List.replicate (2 * cs.length - 2 * (i + 1)) (Value.int 0) := by
  rw [show 2 * cs.length - 2 * i = (2 * cs.length - 2 * (i + 1)) + 1 + 1 by omega, List.replicate_succ, List.replicate_succ, set2_app _ _ _ _ _ _ _ (by rw [List.length_map, ubl_len, List.length_take]; omega), List.take_succ_eq_append_getElem h, ubl_app, List.map_append]
  simp [ubl]
theorem ubl_inj {cs : List Int32} : ∀ {ds : List Int32}, (∀ c ∈ cs, C16 c) → (∀ c ∈ ds, C16 c) → ubl cs = ubl ds → cs = ds := by
  induction cs with
  | nil => intro ds _ _ h; cases ds with
    | nil => rfl
    | cons d ds => simp [ubl] at h
  | cons c cs ih => intro ds hc hd h; cases ds with
    | nil => simp [ubl] at h
    | cons d ds =>
      simp only [ubl, List.cons.injEq] at h
      have e : c = d := by
        have g1 := gch (hc c (by simp))
        have g2 := gch (hd d (by simp))
        rw [h.1, h.2.1] at g1
        exact g1.symm.trans g2
      rw [e, ih (fun x hx => hc x (by simp [hx])) (fun x hx => hd x (by simp [hx])) h.2.2]
theorem shr1_tab : ∀ i : Fin 65, (Int32.ofNat (2 * i.1) >>> ((1 : Int32) &&& 31)) = Int32.ofNat i.1 := by decide
theorem own_shr1 {k : Nat} (hk : k ≤ 64) : (Int32.ofNat (2 * k) >>> ((1 : Int32) &&& 31)) = Int32.ofNat k := shr1_tab ⟨k, by omega⟩
theorem cod_tab : ∀ i : Fin 5, 0 < i.1 → ((ushr (Int32.ofNat i.1 - Int32.ofNat (2 * i.1)) (31 : Int32)).toInt8).toInt32 = (1 : Int32) := by decide
theorem big_gt {c : Int32} (h : ¬ c < 256) : (255 : Int32) < c := by
  simp only [Int32.lt_iff_toInt_lt, show (0 : Int32).toInt = 0 from rfl, show (8 : Int32).toInt = 8 from rfl, show (32 : Int32).toInt = 32 from rfl, show (64 : Int32).toInt = 64 from rfl, show (127 : Int32).toInt = 127 from rfl, show (255 : Int32).toInt = 255 from rfl, show (256 : Int32).toInt = 256 from rfl, show (65536 : Int32).toInt = 65536 from rfl, show (55296 : Int32).toInt = 55296 from rfl, show (56320 : Int32).toInt = 56320 from rfl, show (57343 : Int32).toInt = 57343 from rfl, show (57344 : Int32).toInt = 57344 from rfl, show (16384 : Int32).toInt = 16384 from rfl] at h ⊢
  omega
theorem small_of {c : Int32} (h : ¬ (255 : Int32) < c) : c < 256 := by
  simp only [Int32.lt_iff_toInt_lt, show (0 : Int32).toInt = 0 from rfl, show (8 : Int32).toInt = 8 from rfl, show (32 : Int32).toInt = 32 from rfl, show (64 : Int32).toInt = 64 from rfl, show (127 : Int32).toInt = 127 from rfl, show (255 : Int32).toInt = 255 from rfl, show (256 : Int32).toInt = 256 from rfl, show (65536 : Int32).toInt = 65536 from rfl, show (55296 : Int32).toInt = 55296 from rfl, show (56320 : Int32).toInt = 56320 from rfl, show (57343 : Int32).toInt = 57343 from rfl, show (57344 : Int32).toInt = 57344 from rfl, show (16384 : Int32).toInt = 16384 from rfl] at h ⊢
  omega
def Wd (Z : State) (h : Heap) (s : Addr) (cs : List Int32) : Prop := (Exa Z h s "java/lang/String" ∧ Fld Z h s "java/lang/String" "coder" "B" (.int 1) ∧ ∃ (b : Addr) (k : ClassId), Fld Z h s "java/lang/String" "value" "[B" (.ref b) ∧ Arv Z h b k .byte (Int32.ofNat (2 * cs.length)) ((ubl cs).map Value.int) (.int 0)) ∧ (∀ c ∈ cs, C16 c) ∧ cs.length ≤ 4 ∧ ∃ c ∈ cs, ¬ c < 256
def XA (Z : State) (h : Heap) (s : Addr) : Prop := ∃ b, Fld Z h s "java/lang/String" "value" "[B" (.ref b) ∧ Exa Z h b "[B"
def GS (Z : State) (h : Heap) (s : Addr) (cs : List Int32) : Prop := (Str Z h s cs ∧ XA Z h s) ∨ Wd Z h s cs
theorem Wd.ext {Z : State} {h h' : Heap} {s : Addr} {cs : List Int32} (S : Wd Z h s cs) (E : Ext h h') : Wd Z h' s cs := by
  obtain ⟨⟨a, b, v, k, f1, f2⟩, r⟩ := S
  exact ⟨⟨a.ext E, b.ext E, v, k, f1.ext E, f2.ext E⟩, r⟩
theorem XA.ext {Z : State} {h h' : Heap} {s : Addr} (S : XA Z h s) (E : Ext h h') : XA Z h' s := by obtain ⟨b, f, g⟩ := S; exact ⟨b, f.ext E, g.ext E⟩
theorem GS.ext {Z : State} {h h' : Heap} {s : Addr} {cs : List Int32} (S : GS Z h s cs) (E : Ext h h') : GS Z h' s cs := S.elim (fun q => Or.inl ⟨q.1.ext E, q.2.ext E⟩) (fun q => Or.inr (q.ext E))
theorem GS.exa {Z : State} {h : Heap} {s : Addr} {cs : List Int32} (S : GS Z h s cs) : Exa Z h s "java/lang/String" := S.elim (fun q => q.1.1.1) (fun q => q.1.1)
theorem GS.keep {Z : State} {a0 : Array Value} {h h' : Heap} {a s : Addr} {C : String} {n : Nat} {cs : List Int32} (S : GS Z h a cs) (K : Keep h h' [s]) (q : a ≠ s) (E : Exa Z h s C) (wi : (Jvm.Cond.instantiable C n).before a0 Z = true) : GS Z h' a cs := by
  rcases S with ⟨S, b, f, g⟩ | ⟨⟨f1, f2, b, k, f3, f4⟩, r⟩
  · exact Or.inl ⟨S.keep K q E wi, b, f.keep K (nin1 q), g.keep K⟩
  · exact Or.inr ⟨⟨f1.keep K, f2.keep K (nin1 q), b, k, f3.keep K (nin1 q), f4.keep K (nin1 (Ne.symm (Exa.neArv E f4 wi)))⟩, r⟩
theorem GS.str {Z : State} {h : Heap} {s : Addr} {cs : List Int32} (S : GS Z h s cs) (ht : ∀ c ∈ cs, TokC c) : Str Z h s cs := S.elim (fun q => q.1) (fun q => by
  obtain ⟨-, -, -, c, hc, hn⟩ := q
  exact absurd (ht c hc).lat.2 hn)
def ch1 (n p q : Int32) : List Int32 := if n = 1 then [p] else [p, q]
theorem ch1_ne (n p q : Int32) : ¬ ch1 n p q = [] := by unfold ch1; split <;> simp
theorem ch1_len (n p q : Int32) : (ch1 n p q).length ≤ 4 := by unfold ch1; split <;> simp
theorem ch1_all {P : Int32 → Prop} {n p q : Int32} (hp : P p) (hq : P q) : ∀ c ∈ ch1 n p q, P c := by
  intro c hc
  unfold ch1 at hc
  split at hc
  · simp at hc; subst hc; exact hp
  · simp at hc; rcases hc with rfl | rfl <;> assumption
theorem ch1_eq {n n' p q p' q' : Int32} (hn : n = 1 ∨ n = 2) (hn' : n' = 1 ∨ n' = 2) : (ch1 n p q = ch1 n' p' q') ↔ (n = n' ∧ p = p' ∧ (n = 1 ∨ q = q')) := by
  rcases hn with rfl | rfl <;> rcases hn' with rfl | rfl <;> simp [ch1]
theorem xor_tab1 : ∀ i : Fin 32, (Int32.ofNat i.1 ^^^ (64 : Int32)) = Int32.ofNat (i.1 + 64) := by decide
theorem xor_tab2 : ∀ i : Fin 2048, (Int32.ofNat (55296 + i.1) ^^^ (16384 : Int32)) = Int32.ofNat (38912 + i.1) := by decide +kernel
theorem xor1 {k : Int32} (h0 : 0 ≤ k.toInt) (h : k < 32) : (k ^^^ (64 : Int32)).toInt = k.toInt + 64 := by
  rw [Int32.lt_iff_toInt_lt, show (32 : Int32).toInt = 32 from rfl] at h
  have hi : k.toInt.toNat < 32 := by omega
  have hx : k = Int32.ofNat k.toInt.toNat := Int32.toInt_inj.mp (by rw [own_ti (by omega)]; omega)
  have e := xor_tab1 ⟨k.toInt.toNat, hi⟩
  rw [← hx] at e
  rw [e, own_ti (by show k.toInt.toNat + 64 < _; omega)]
  show ((k.toInt.toNat + 64 : Nat) : Int) = _
  omega
theorem xor2 {k : Int32} (h1 : ¬ k < 55296) (h2 : ¬ 57343 < k) : (k ^^^ (16384 : Int32)).toInt = k.toInt - 16384 := by
  simp only [Int32.lt_iff_toInt_lt, show (0 : Int32).toInt = 0 from rfl, show (8 : Int32).toInt = 8 from rfl, show (32 : Int32).toInt = 32 from rfl, show (64 : Int32).toInt = 64 from rfl, show (127 : Int32).toInt = 127 from rfl, show (255 : Int32).toInt = 255 from rfl, show (256 : Int32).toInt = 256 from rfl, show (65536 : Int32).toInt = 65536 from rfl, show (55296 : Int32).toInt = 55296 from rfl, show (56320 : Int32).toInt = 56320 from rfl, show (57343 : Int32).toInt = 57343 from rfl, show (57344 : Int32).toInt = 57344 from rfl, show (16384 : Int32).toInt = 16384 from rfl] at h1 h2
  have hi : k.toInt.toNat - 55296 < 2048 := by omega
  have hx : k = Int32.ofNat (55296 + (k.toInt.toNat - 55296)) := Int32.toInt_inj.mp (by rw [own_ti (by omega)]; omega)
  have e := xor_tab2 ⟨k.toInt.toNat - 55296, hi⟩
  have e' : (k ^^^ (16384 : Int32)) = Int32.ofNat (38912 + (k.toInt.toNat - 55296)) := by
    have q : (k ^^^ (16384 : Int32)) = (Int32.ofNat (55296 + (k.toInt.toNat - 55296)) ^^^ (16384 : Int32)) := congrArg (· ^^^ (16384 : Int32)) hx
    exact q.trans e
  rw [e', own_ti (by omega)]
  omega

theorem map_int_inj {a b : List Int32} (h : a.map Value.int = b.map Value.int) : a = b := (List.map_inj_right (fun x y h => by injection h)).mp h
theorem same_eq {r x : Int32} {P : Prop} (h : (r = 1 ∧ P) ∨ (r = 0 ∧ ¬ P)) (h' : (x = 1 ∧ P) ∨ (x = 0 ∧ ¬ P)) : r = x := by
  rcases h with ⟨rfl, p⟩ | ⟨rfl, p⟩ <;> rcases h' with ⟨rfl, q⟩ | ⟨rfl, q⟩
  · rfl
  · exact absurd p q
  · exact absurd q p
  · rfl
theorem l12_sub {n : Int32} (h : n = 1 ∨ n = 2) : 3 - n = 1 ∨ 3 - n = 2 := by
  rcases h with rfl | rfl
  · exact Or.inr rfl
  · exact Or.inl rfl
theorem Wd.uniq {Z : State} {h : Heap} {s : Addr} {cs ds : List Int32} (S : Wd Z h s cs) (U : Wd Z h s ds) : cs = ds := by
  obtain ⟨⟨-, -, b, k, F, A⟩, h16, h4, -⟩ := S
  obtain ⟨⟨-, -, b', k', F', A'⟩, h16', h4', -⟩ := U
  have e : b = b' := Classical.byContradiction fun q => Fld.ne F F' (fun z => q (by injection z)) rfl
  subst e
  exact ubl_inj h16 h16' (map_int_inj (Arv.uniq A A' (by rw [List.length_map, ubl_len, own_tn (by omega)]) (by rw [List.length_map, ubl_len, own_tn (by omega)])))
def K65 (x : Int32) : Prop := ¬ x < 0 ∧ x < 65
theorem k65_and (x : Int32) : K65 ((x &&& 255) % 65) := by
  have h := c_and x 255 (by decide)
  have r := (c_irem (x &&& 255) 65 65 rfl).1 h.1
  unfold K65
  simp only [Int32.lt_iff_toInt_lt, show (0 : Int32).toInt = 0 from rfl, show (65 : Int32).toInt = 65 from rfl]
  omega
theorem k65_succ {x : Int32} (h : K65 x) : K65 ((x + 1) % 65) := by
  unfold K65 at h ⊢
  simp only [Int32.lt_iff_toInt_lt, show (0 : Int32).toInt = 0 from rfl, show (65 : Int32).toInt = 65 from rfl] at h ⊢
  have a := c_iadd x 1
  have b := rng32 (x + 1)
  rw [show (1 : Int32).toInt = 1 from rfl] at a
  have r := (c_irem (x + 1) 65 65 rfl).1 (by omega)
  omega
theorem l12_and (x : Int32) : (x &&& 1) + 1 = 1 ∨ (x &&& 1) + 1 = 2 := by
  have h := c_and x 1 (by decide)
  have a := c_iadd (x &&& 1) 1
  have b := rng32 ((x &&& 1) + 1)
  simp only [← Int32.toInt_inj, show (1 : Int32).toInt = 1 from rfl, show (2 : Int32).toInt = 2 from rfl] at h a ⊢
  omega

theorem ch1_len2 (n p q : Int32) : (ch1 n p q).length ≤ 2 := by unfold ch1; split <;> simp
theorem str_no {Z : State} {a0 : Array Value} {K : String} {n : Nat} (w1 : (Jvm.Cond.superclass "java/lang/String" "java/lang/Object").before a0 Z = true) (w2 : (Jvm.Cond.noSuperclass "java/lang/Object").before a0 Z = true) (wi : (Jvm.Cond.instantiable K n).before a0 Z = true) (h1 : "java/lang/String" ≠ K) (h2 : "java/lang/Object" ≠ K) : ∃ c t, Z.vm.findClass "java/lang/String" = some c ∧ Z.vm.findClass K = some t ∧ Z.vm.assignable c t = false := by
  obtain ⟨c, hc⟩ := found_sup w1
  obtain ⟨p, k, kp, q1, q2, q3, q4, q5, -, q7⟩ := Cond.superclass_spec hc w1
  obtain ⟨c', k', r1, r2, r3, -, -⟩ := Cond.noSuperclass_spec w2
  cases q1.symm.trans r1
  cases q3.symm.trans r2
  obtain ⟨t, kt, i1, i2, i3, i4⟩ := Cond.instantiable_spec wi
  have ne1 := ids_ne hc i1 h1
  have ne2 := ids_ne q1 i1 h2
  have g7 : kt.isInterface = false := (Bool.or_eq_false_iff.mp i4.1).1
  have sub : ∀ fuel, Z.vm.isSubclassAux fuel c t = false := fun fuel => by
    cases fuel with
    | zero => rfl
    | succ f =>
      simp [Vm.isSubclassAux, ne1, q2, q4]
      cases f with
      | zero => rfl
      | succ f => simp [Vm.isSubclassAux, ne2, q3, r3]
  refine ⟨c, t, hc, i1, ?_⟩
  show Z.vm.assignableAux (255 + 1) c t = false
  simp [Vm.assignableAux, ne1, q2, i2, q5, i3, g7, Vm.isSubclass, sub]

abbrev y8 : MethodName := ⟨"java/lang/StringUTF16", "compress", "([CI[BII)I"⟩
theorem d8_0 : decode jdk_52_method_21_code 0 = .ok (.iconst 0, 1) := by decide +kernel
theorem d8_1 : decode jdk_52_method_21_code 1 = .ok (.istore 5, 2) := by decide +kernel
theorem d8_3 : decode jdk_52_method_21_code 3 = .ok (.iload 5, 2) := by decide +kernel
theorem d8_5 : decode jdk_52_method_21_code 5 = .ok (.iload 4, 2) := by decide +kernel
theorem d8_7 : decode jdk_52_method_21_code 7 = .ok (.if_icmp .ge 37, 3) := by decide +kernel
theorem d8_10 : decode jdk_52_method_21_code 10 = .ok (.aload_n 0, 1) := by decide +kernel
theorem d8_11 : decode jdk_52_method_21_code 11 = .ok (.iload_n 1, 1) := by decide +kernel
theorem d8_12 : decode jdk_52_method_21_code 12 = .ok (.caload, 1) := by decide +kernel
theorem d8_13 : decode jdk_52_method_21_code 13 = .ok (.istore 6, 2) := by decide +kernel
theorem d8_15 : decode jdk_52_method_21_code 15 = .ok (.iload 6, 2) := by decide +kernel
theorem d8_17 : decode jdk_52_method_21_code 17 = .ok (.sipush 255, 3) := by decide +kernel
theorem d8_20 : decode jdk_52_method_21_code 20 = .ok (.if_icmp .le 6, 3) := by decide +kernel
theorem d8_23 : decode jdk_52_method_21_code 23 = .ok (.iload 5, 2) := by decide +kernel
theorem d8_25 : decode jdk_52_method_21_code 25 = .ok (.ireturn, 1) := by decide +kernel
theorem d8_26 : decode jdk_52_method_21_code 26 = .ok (.aload_n 2, 1) := by decide +kernel
theorem d8_27 : decode jdk_52_method_21_code 27 = .ok (.iload_n 3, 1) := by decide +kernel
theorem d8_28 : decode jdk_52_method_21_code 28 = .ok (.iload 6, 2) := by decide +kernel
theorem d8_30 : decode jdk_52_method_21_code 30 = .ok (.i2b, 1) := by decide +kernel
theorem d8_31 : decode jdk_52_method_21_code 31 = .ok (.bastore, 1) := by decide +kernel
theorem d8_32 : decode jdk_52_method_21_code 32 = .ok (.iinc 1 1, 3) := by decide +kernel
theorem d8_35 : decode jdk_52_method_21_code 35 = .ok (.iinc 3 1, 3) := by decide +kernel
theorem d8_38 : decode jdk_52_method_21_code 38 = .ok (.iinc 5 1, 3) := by decide +kernel
theorem d8_41 : decode jdk_52_method_21_code 41 = .ok (.goto (-38), 3) := by decide +kernel
theorem d8_44 : decode jdk_52_method_21_code 44 = .ok (.iload 4, 2) := by decide +kernel
theorem d8_46 : decode jdk_52_method_21_code 46 = .ok (.ireturn, 1) := by decide +kernel
theorem pd8 : parseMethodDescriptor "([CI[BII)I" = some ⟨[(.array .char), .int, (.array .byte), .int, .int], (some .int)⟩ := by decide +kernel
theorem pn8 : plainFor y8 = true := by first | exact plainFor_of_name (by first | (simp [plainName, overriddenIn]; done) | decide +kernel) | decide +kernel | rfl
set_option maxRecDepth 65536 in
set_option maxHeartbeats 40000000 in
theorem con_cmp2 (l : Launch) (Z : State) (a0 : Array Value) (hw : ∀ d ∈ tables_1, d.before a0 Z = true) (h0 : Heap) (n0 : Nat) (σ : Sg) (a b : Addr) (ka kb : ClassId) (cs : List Int32) (A : Arv Z h0 a ka .char (Int32.ofNat cs.length) (cs.map Value.int) (.int 0)) (B0 : Arv Z h0 b kb .byte (Int32.ofNat cs.length) (List.replicate cs.length (Value.int 0)) (.int 0)) (hp : Lat cs) (nab : a ≠ b) (gb : n0 ≤ b) :
    Con l Z y8 jdk_52_method_21_code 7 ((some .int)) ({ frames := 0, cells := 0, slots := 0, locals := 0 } : Room) [] #[(.ref a), (.int (0 : Int32)), (.ref b), (.int (0 : Int32)), (.int (Int32.ofNat cs.length))] σ h0 n0 (fun v h τ => σ = τ ∧ v = some (.int (Int32.ofNat cs.length)) ∧ Keep h0 h [b] ∧ Arv Z h b kb .byte (Int32.ofNat cs.length) (bv cs) (.int 0)) := by
  refine Con.of_go pn8 (ls := #[.val (.ref a), .val (.int (0 : Int32)), .val (.ref b), .val (.int (0 : Int32)), .val (.int (Int32.ofNat cs.length)), .unset, .unset]) (fun m => by first | (simp [entryFrame, mkF, argsToLocals, Value.category]; done) | rfl) ?_
  intro κ D
  have hl := hp.2
  have loop : ∀ (N i : Nat) (h : Heap) (s6 : Slot), cs.length - i = N → i ≤ cs.length → Keep h0 h [b] → Arv Z h b kb .byte (Int32.ofNat cs.length) ((bv cs).take i ++ List.replicate (cs.length - i) (Value.int 0)) (.int 0) → (s6 = .unset ∨ ∃ w, s6 = .val w ∧ w.category = 1) → Go κ σ h 0 0 3 #[.val (.ref a), .val (.int (Int32.ofNat i)), .val (.ref b), .val (.int (Int32.ofNat i)), .val (.int (Int32.ofNat cs.length)), .val (.int (Int32.ofNat i)), s6] [] := by
    intro N
    induction N using Nat.strongRecOn with
    | _ N ih =>
      intro i h s6 hN hi0 K B hs6
      refine Go.iload D (pc' := 5) d8_3 rfl rfl ?_
      refine Go.iload D (pc' := 7) d8_5 rfl rfl ?_
      refine Go.icmp D (pc' := 44) (pc2 := 10) d8_7 (by decide) (by decide) rfl ?_ ?_
      · intro (hc7 : ¬ (Int32.ofNat i) < (Int32.ofNat cs.length))
        refine Go.iload D (pc' := 46) d8_44 rfl rfl ?_
        refine Go.iret D rfl d8_46 (by decide) (by decide) ?_
        have hi : i = cs.length := by
          have : ¬ i < cs.length := fun q => hc7 ((own_lt (by omega) (by omega)).mpr q)
          omega
        subst hi
        refine ⟨rfl, rfl, K, ?_⟩
        rw [Nat.sub_self, List.replicate_zero, List.append_nil, List.take_of_length_le (by rw [bv_len]; exact Nat.le_refl _)] at B
        exact B
      · intro (hc7 : (Int32.ofNat i) < (Int32.ofNat cs.length))
        refine Go.aloadN D (pc' := 11) d8_10 rfl rfl rfl ?_
        refine Go.iloadN D (pc' := 12) d8_11 rfl rfl ?_
        have hi : i < cs.length := (own_lt (by omega) (by omega)).mp hc7
        refine Go.caload D (pc' := 13) d8_12 rfl (A.keep K (nin1 nab)) (own_nn (by omega)) ((own_lt (by omega) (by omega)).mpr hi) (v := .int cs[i]) (by rw [own_tn (by omega)]; exact cs_at hi _) ?_
        refine Go.istoreU D (pc' := 15) d8_13 rfl rfl hs6 (ls' := #[.val (.ref a), .val (.int (Int32.ofNat i)), .val (.ref b), .val (.int (Int32.ofNat i)), .val (.int (Int32.ofNat cs.length)), .val (.int (Int32.ofNat i)), .val (.int cs[i])]) rfl ?_
        refine Go.iload D (pc' := 17) d8_15 rfl rfl ?_
        refine Go.sipush D (pc' := 20) d8_17 rfl (v := (255 : Int32)) rfl ?_
        refine Go.icmp D (pc' := 26) (pc2 := 23) d8_20 (by decide) (by decide) rfl ?_ ?_
        · intro (hc20 : ¬ (255 : Int32) < cs[i])
          refine Go.aloadN D (pc' := 27) d8_26 rfl rfl rfl ?_
          refine Go.iloadN D (pc' := 28) d8_27 rfl rfl ?_
          refine Go.iload D (pc' := 30) d8_28 rfl rfl ?_
          refine Go.i2b D (pc' := 31) d8_30 rfl  ?_
          refine Go.bastore D (pc' := 32) (i := i) d8_31 rfl B (own_nn (by omega)) ((own_lt (by omega) (by omega)).mpr hi) (own_tn (by omega)) (by simp [bv]; omega) gb (own_bb _) ?_
          intro h2 K2 B2
          refine Go.iinc D (pc' := 35) d8_32 rfl rfl (d := (1 : Int32)) rfl (ls' := #[.val (.ref a), .val (.int ((Int32.ofNat i) + (1 : Int32))), .val (.ref b), .val (.int (Int32.ofNat i)), .val (.int (Int32.ofNat cs.length)), .val (.int (Int32.ofNat i)), .val (.int cs[i])]) rfl ?_
          refine Go.iinc D (pc' := 38) d8_35 rfl rfl (d := (1 : Int32)) rfl (ls' := #[.val (.ref a), .val (.int ((Int32.ofNat i) + (1 : Int32))), .val (.ref b), .val (.int ((Int32.ofNat i) + (1 : Int32))), .val (.int (Int32.ofNat cs.length)), .val (.int (Int32.ofNat i)), .val (.int cs[i])]) rfl ?_
          refine Go.iinc D (pc' := 41) d8_38 rfl rfl (d := (1 : Int32)) rfl (ls' := #[.val (.ref a), .val (.int ((Int32.ofNat i) + (1 : Int32))), .val (.ref b), .val (.int ((Int32.ofNat i) + (1 : Int32))), .val (.int (Int32.ofNat cs.length)), .val (.int ((Int32.ofNat i) + (1 : Int32))), .val (.int cs[i])]) rfl ?_
          refine Go.goto D (pc' := 3) d8_41 (by decide) (by decide) ?_
          rw [own_succ]
          rw [own_bset hi] at B2
          exact ih (cs.length - (i + 1)) (by omega) (i + 1) h2 _ rfl (by omega) (K.trans K2 (fun x hx => Or.inl hx)) B2 (Or.inr ⟨_, rfl, rfl⟩)
        · intro (hc20 : (255 : Int32) < cs[i])
          exact absurd hc20 (lat_le (hp.1 _ (List.getElem_mem hi)))
  refine Go.iconst D (pc' := 1) d8_0 rfl (v := (0 : Int32)) rfl ?_
  refine Go.istore D (pc' := 3) d8_1 rfl (ls' := #[.val (.ref a), .val (.int (0 : Int32)), .val (.ref b), .val (.int (0 : Int32)), .val (.int (Int32.ofNat cs.length)), .val (.int (0 : Int32)), .unset]) rfl ?_
  rw [show (0 : Int32) = Int32.ofNat 0 from rfl]
  exact loop (cs.length - 0) 0 h0 _ rfl (by omega) (Keep.refl _ _) (by simpa using B0) (Or.inl rfl)
abbrev y7 : MethodName := ⟨"java/lang/StringUTF16", "compress", "([CII)[B"⟩
theorem d7_0 : decode jdk_52_method_16_code 0 = .ok (.iload_n 2, 1) := by decide +kernel
theorem d7_1 : decode jdk_52_method_16_code 1 = .ok (.newarray .byte, 2) := by decide +kernel
theorem d7_3 : decode jdk_52_method_16_code 3 = .ok (.astore_n 3, 1) := by decide +kernel
theorem d7_4 : decode jdk_52_method_16_code 4 = .ok (.aload_n 0, 1) := by decide +kernel
theorem d7_5 : decode jdk_52_method_16_code 5 = .ok (.iload_n 1, 1) := by decide +kernel
theorem d7_6 : decode jdk_52_method_16_code 6 = .ok (.aload_n 3, 1) := by decide +kernel
theorem d7_7 : decode jdk_52_method_16_code 7 = .ok (.iconst 0, 1) := by decide +kernel
theorem d7_8 : decode jdk_52_method_16_code 8 = .ok (.iload_n 2, 1) := by decide +kernel
theorem d7_9 : decode jdk_52_method_16_code 9 = .ok (.invokestatic 115, 3) := by decide +kernel
theorem d7_12 : decode jdk_52_method_16_code 12 = .ok (.istore 4, 2) := by decide +kernel
theorem d7_14 : decode jdk_52_method_16_code 14 = .ok (.iload 4, 2) := by decide +kernel
theorem d7_16 : decode jdk_52_method_16_code 16 = .ok (.iload_n 2, 1) := by decide +kernel
theorem d7_17 : decode jdk_52_method_16_code 17 = .ok (.if_icmp .eq 40, 3) := by decide +kernel
theorem d7_57 : decode jdk_52_method_16_code 57 = .ok (.aload_n 3, 1) := by decide +kernel
theorem d7_58 : decode jdk_52_method_16_code 58 = .ok (.areturn, 1) := by decide +kernel
theorem pd7 : parseMethodDescriptor "([CII)[B" = some ⟨[(.array .char), .int, .int], (some (.array .byte))⟩ := by decide +kernel
theorem pn7 : plainFor y7 = true := by first | exact plainFor_of_name (by first | (simp [plainName, overriddenIn]; done) | decide +kernel) | decide +kernel | rfl
set_option maxRecDepth 65536 in
set_option maxHeartbeats 40000000 in
theorem con_cmp1 (l : Launch) (Z : State) (a0 : Array Value) (hw : ∀ d ∈ tables_1, d.before a0 Z = true) (h0 : Heap) (n0 : Nat) (Z0 : n0 ≤ h0.size) (σ : Sg) (a : Addr) (ka : ClassId) (cs : List Int32) (A : Arv Z h0 a ka .char (Int32.ofNat cs.length) (cs.map Value.int) (.int 0)) (hp : Lat cs) :
    Con l Z y7 jdk_52_method_16_code 6 ((some (.array .byte))) ({ frames := 1, cells := 1, slots := 64, locals := 18 } : Room) [] #[(.ref a), (.int (0 : Int32)), (.int (Int32.ofNat cs.length))] σ h0 n0 (fun v h τ => σ = τ ∧ ∃ b kb, v = some (.ref b) ∧ h0.size ≤ b ∧ Ext h0 h ∧ Arv Z h b kb .byte (Int32.ofNat cs.length) (bv cs) (.int 0) ∧ Exa Z h b "[B") := by
  refine Con.of_go pn7 (ls := #[.val (.ref a), .val (.int (0 : Int32)), .val (.int (Int32.ofNat cs.length)), .unset, .unset, .unset]) (fun m => by first | (simp [entryFrame, mkF, argsToLocals, Value.category]; done) | rfl) ?_
  intro κ D
  have hl := hp.2
  have qa := own_ltn A.lt
  refine Go.iloadN D (pc' := 1) d7_0 rfl rfl ?_
  refine Go.newPE D (pc' := 3) (aty := .byte) (cap := 64) (ce' := 1) (sl' := 64) (hw _ (List.mem_of_getElem? (i := 30) rfl)) d7_1 rfl (own_nn (by omega)) (by rw [own_tn (by omega)]; omega) (by decide) (ad := "[B") (by decide) rfl rfl (by decide) (by decide) ?_
  intro h1 b kb gb E1 B1 X1
  refine Go.astoreN D (pc' := 4) d7_3 rfl rfl (ls' := #[.val (.ref a), .val (.int (0 : Int32)), .val (.int (Int32.ofNat cs.length)), .val (.ref b), .unset, .unset]) rfl ?_
  refine Go.aloadN D (pc' := 5) d7_4 rfl rfl rfl ?_
  refine Go.iloadN D (pc' := 6) d7_5 rfl rfl ?_
  refine Go.aloadN D (pc' := 7) d7_6 rfl rfl rfl ?_
  refine Go.iconst D (pc' := 8) d7_7 rfl (v := (0 : Int32)) rfl ?_
  refine Go.iloadN D (pc' := 9) d7_8 rfl rfl ?_
  refine Go.callS D (argsL := [(.ref a), (.int (0 : Int32)), (.ref b), (.int (0 : Int32)), (.int (Int32.ofNat cs.length))]) (rest := []) (pc' := 12) (ce' := 1) (sl' := 64) (con_cmp2 l Z a0 hw h1 n0 σ a b ka kb cs (A.ext E1) (B1.pad (vs' := List.replicate cs.length (.int 0)) (fun i => pad_rep [] (.int 0) cs.length i)) hp (own_ne (by omega)) (by omega)) (hw _ (List.mem_of_getElem? (i := 31) rfl)) (hw _ (List.mem_of_getElem? (i := 32) rfl)) (hw _ (List.mem_of_getElem? (i := 28) rfl)) (hw _ (List.mem_of_getElem? (i := 33) rfl)) (by decide) d7_9 rfl pd8 rfl rfl rfl (by decide) (W := 0) rfl (by decide) (by decide) (by decide) (by decide) (by decide) ?_
  intro v9 h2 σ9 q9
  obtain ⟨rfl, rfl, K2, B2⟩ := q9
  show Go κ σ h2 1 64 12 #[.val (.ref a), .val (.int (0 : Int32)), .val (.int (Int32.ofNat cs.length)), .val (.ref b), .unset, .unset] [(.int (Int32.ofNat cs.length))]
  refine Go.istore D (pc' := 14) d7_12 rfl (ls' := #[.val (.ref a), .val (.int (0 : Int32)), .val (.int (Int32.ofNat cs.length)), .val (.ref b), .val (.int (Int32.ofNat cs.length)), .unset]) rfl ?_
  refine Go.iload D (pc' := 16) d7_14 rfl rfl ?_
  refine Go.iloadN D (pc' := 17) d7_16 rfl rfl ?_
  refine Go.icmp D (pc' := 57) (pc2 := 20) d7_17 (by decide) (by decide) rfl ?_ ?_
  · intro (hc17 : (Int32.ofNat cs.length) = (Int32.ofNat cs.length))
    refine Go.aloadN D (pc' := 58) d7_57 rfl rfl rfl ?_
    refine Go.aret D rfl rfl rfl d7_58 (by decide) (by decide) ?_
    exact ⟨rfl, b, kb, rfl, by omega, E1.keepN K2 (by omega), B2, X1.keep K2⟩
  · intro (hc17 : ¬ (Int32.ofNat cs.length) = (Int32.ofNat cs.length))
    exact absurd rfl hc17
abbrev y9 : MethodName := ⟨"java/lang/StringUTF16", "coderFromArrayLen", "([BI)B"⟩
theorem d9_0 : decode jdk_52_method_15_code 0 = .ok (.iload_n 1, 1) := by decide +kernel
theorem d9_1 : decode jdk_52_method_15_code 1 = .ok (.aload_n 0, 1) := by decide +kernel
theorem d9_2 : decode jdk_52_method_15_code 2 = .ok (.arraylength, 1) := by decide +kernel
theorem d9_3 : decode jdk_52_method_15_code 3 = .ok (.isub, 1) := by decide +kernel
theorem d9_4 : decode jdk_52_method_15_code 4 = .ok (.bipush 31, 2) := by decide +kernel
theorem d9_6 : decode jdk_52_method_15_code 6 = .ok (.iushr, 1) := by decide +kernel
theorem d9_7 : decode jdk_52_method_15_code 7 = .ok (.i2b, 1) := by decide +kernel
theorem d9_8 : decode jdk_52_method_15_code 8 = .ok (.ireturn, 1) := by decide +kernel
theorem pd9 : parseMethodDescriptor "([BI)B" = some ⟨[(.array .byte), .int], (some .byte)⟩ := by decide +kernel
theorem pn9 : plainFor y9 = true := by first | exact plainFor_of_name (by first | (simp [plainName, overriddenIn]; done) | decide +kernel) | decide +kernel | rfl
set_option maxRecDepth 65536 in
set_option maxHeartbeats 40000000 in
theorem con_coder (l : Launch) (Z : State) (a0 : Array Value) (hw : ∀ d ∈ tables_1, d.before a0 Z = true) (h0 : Heap) (n0 : Nat) (σ : Sg) (b : Addr) (kb : ClassId) (n : Int32) (vs : List Value) (B : Arv Z h0 b kb .byte n vs (.int 0)) :
    Con l Z y9 jdk_52_method_15_code 2 ((some .byte)) ({ frames := 0, cells := 0, slots := 0, locals := 0 } : Room) [] #[(.ref b), (.int n)] σ h0 n0 (fun v h τ => h0 = h ∧ σ = τ ∧ v = some (.int 0)) := by
  refine Con.of_go pn9 (ls := #[.val (.ref b), .val (.int n)]) (fun m => by first | (simp [entryFrame, mkF, argsToLocals, Value.category]; done) | rfl) ?_
  intro κ D
  refine Go.iloadN D (pc' := 1) d9_0 rfl rfl ?_
  refine Go.aloadN D (pc' := 2) d9_1 rfl rfl rfl ?_
  refine Go.alen D (pc' := 3) d9_2 rfl B ?_
  refine Go.isub D (pc' := 4) d9_3 rfl  ?_
  refine Go.bipush D (pc' := 6) d9_4 rfl (v := (31 : Int32)) rfl ?_
  refine Go.iushr D (pc' := 7) d9_6 rfl  ?_
  refine Go.i2b D (pc' := 8) d9_7 rfl  ?_
  have e0 : ((ushr (n - n) (31 : Int32)).toInt8).toInt32 = (0 : Int32) := by rw [Int32.sub_self]; decide
  rw [e0]
  refine Go.bret D rfl rfl d9_8 (by decide) (by decide) ?_
  exact ⟨rfl, rfl, rfl⟩
abbrev y5 : MethodName := ⟨"java/lang/String", "<init>", "([CIILjava/lang/Void;)V"⟩
theorem d5_0 : decode jdk_42_method_149_code 0 = .ok (.aload_n 0, 1) := by decide +kernel
theorem d5_1 : decode jdk_42_method_149_code 1 = .ok (.invokespecial 1, 3) := by decide +kernel
theorem d5_4 : decode jdk_42_method_149_code 4 = .ok (.iload_n 3, 1) := by decide +kernel
theorem d5_5 : decode jdk_42_method_149_code 5 = .ok (.ifCond .ne 22, 3) := by decide +kernel
theorem d5_27 : decode jdk_42_method_149_code 27 = .ok (.getstatic 38, 3) := by decide +kernel
theorem d5_30 : decode jdk_42_method_149_code 30 = .ok (.ifCond .eq 28, 3) := by decide +kernel
theorem d5_33 : decode jdk_42_method_149_code 33 = .ok (.aload_n 1, 1) := by decide +kernel
theorem d5_34 : decode jdk_42_method_149_code 34 = .ok (.iload_n 2, 1) := by decide +kernel
theorem d5_35 : decode jdk_42_method_149_code 35 = .ok (.iload_n 3, 1) := by decide +kernel
theorem d5_36 : decode jdk_42_method_149_code 36 = .ok (.invokestatic 177, 3) := by decide +kernel
theorem d5_39 : decode jdk_42_method_149_code 39 = .ok (.astore 5, 2) := by decide +kernel
theorem d5_41 : decode jdk_42_method_149_code 41 = .ok (.aload_n 0, 1) := by decide +kernel
theorem d5_42 : decode jdk_42_method_149_code 42 = .ok (.aload 5, 2) := by decide +kernel
theorem d5_44 : decode jdk_42_method_149_code 44 = .ok (.iload_n 3, 1) := by decide +kernel
theorem d5_45 : decode jdk_42_method_149_code 45 = .ok (.invokestatic 47, 3) := by decide +kernel
theorem d5_48 : decode jdk_42_method_149_code 48 = .ok (.putfield 15, 3) := by decide +kernel
theorem d5_51 : decode jdk_42_method_149_code 51 = .ok (.aload_n 0, 1) := by decide +kernel
theorem d5_52 : decode jdk_42_method_149_code 52 = .ok (.aload 5, 2) := by decide +kernel
theorem d5_54 : decode jdk_42_method_149_code 54 = .ok (.putfield 9, 3) := by decide +kernel
theorem d5_57 : decode jdk_42_method_149_code 57 = .ok (.return_, 1) := by decide +kernel
theorem pd5 : parseMethodDescriptor "([CIILjava/lang/Void;)V" = some ⟨[(.array .char), .int, .int, (.object "java/lang/Void")], none⟩ := by decide +kernel
theorem pn5 : plainFor y5 = true := by first | exact plainFor_of_name (by first | (simp [plainName, overriddenIn]; done) | decide +kernel) | decide +kernel | rfl
set_option maxRecDepth 65536 in
set_option maxHeartbeats 40000000 in
theorem con_strN4 (l : Launch) (Z : State) (a0 : Array Value) (hw : ∀ d ∈ tables_1, d.before a0 Z = true) (h0 : Heap) (n0 : Nat) (Z0 : n0 ≤ h0.size) (σ : Sg) (s : Addr) (a : Addr) (ka : ClassId) (cs : List Int32) (A : Arv Z h0 a ka .char (Int32.ofNat cs.length) (cs.map Value.int) (.int 0)) (hp : Lat cs) (hne : cs ≠ []) (cz : Int32) (hcz : ¬ cz = 0) (O2 : Sta Z Z.heap "java/lang/String" "COMPACT_STRINGS" "Z" (.int cz)) (g0 : n0 ≤ s) (E : Exa Z h0 s "java/lang/String") (Fv : Fld Z h0 s "java/lang/String" "value" "[B" .null) (Fc : Fld Z h0 s "java/lang/String" "coder" "B" (.int 0)) :
    Con l Z y5 jdk_42_method_149_code 6 none ({ frames := 2, cells := 1, slots := 64, locals := 48 } : Room) [] #[(.ref s), (.ref a), (.int (0 : Int32)), (.int (Int32.ofNat cs.length)), (.null)] σ h0 n0 (fun v h τ => σ = τ ∧ v = none ∧ Keep h0 h [s] ∧ Str Z h s cs ∧ (∃ b, Fld Z h s "java/lang/String" "value" "[B" (.ref b) ∧ Exa Z h b "[B")) := by
  refine Con.of_go pn5 (ls := #[.val (.ref s), .val (.ref a), .val (.int (0 : Int32)), .val (.int (Int32.ofNat cs.length)), .val (.null), .unset]) (fun m => by first | (simp [entryFrame, mkF, argsToLocals, Value.category]; done) | rfl) ?_
  intro κ D
  have hl := hp.2
  have qs := own_ltn E.lt
  have hpos : 0 < cs.length := List.length_pos_iff.mpr hne
  refine Go.aloadN D (pc' := 1) d5_0 rfl rfl rfl ?_
  refine Go.initO D (pc' := 4) (hw _ (List.mem_of_getElem? (i := 22) rfl)) (hw _ (List.mem_of_getElem? (i := 23) rfl)) (hw _ (List.mem_of_getElem? (i := 24) rfl)) d5_1 rfl rfl (by decide) (W := 0) rfl (by decide) ?_
  refine Go.iloadN D (pc' := 5) d5_4 rfl rfl ?_
  refine Go.ifc D (pc' := 27) (pc2 := 8) d5_5 (by decide) (by decide) rfl ?_ ?_
  · intro (hc5 : ¬ (Int32.ofNat cs.length) = 0)
    refine Go.getS D (pc' := 30) (hw _ (List.mem_of_getElem? (i := 25) rfl)) d5_27 rfl O2 ?_
    refine Go.ifc D (pc' := 58) (pc2 := 33) d5_30 (by decide) (by decide) rfl ?_ ?_
    · intro (hc30 : cz = 0)
      exact absurd hc30 hcz
    · intro (hc30 : ¬ cz = 0)
      refine Go.aloadN D (pc' := 34) d5_33 rfl rfl rfl ?_
      refine Go.iloadN D (pc' := 35) d5_34 rfl rfl ?_
      refine Go.iloadN D (pc' := 36) d5_35 rfl rfl ?_
      refine Go.callS D (argsL := [(.ref a), (.int (0 : Int32)), (.int (Int32.ofNat cs.length))]) (rest := []) (pc' := 39) (ce' := 1) (sl' := 64) (con_cmp1 l Z a0 hw h0 n0 Z0 σ a ka cs A hp) (hw _ (List.mem_of_getElem? (i := 26) rfl)) (hw _ (List.mem_of_getElem? (i := 27) rfl)) (hw _ (List.mem_of_getElem? (i := 28) rfl)) (hw _ (List.mem_of_getElem? (i := 29) rfl)) (by decide) d5_36 rfl pd7 rfl rfl rfl (by decide) (W := 0) rfl (by decide) (by decide) (by decide) (by decide) (by decide) ?_
      intro v36 h1 σ36 q36
      obtain ⟨rfl, b, kb, rfl, gb, E1, B1, XB⟩ := q36
      show Go κ σ h1 1 64 39 #[.val (.ref s), .val (.ref a), .val (.int (0 : Int32)), .val (.int (Int32.ofNat cs.length)), .val (.null), .unset] [(.ref b)]
      refine Go.astore D (pc' := 41) d5_39 rfl rfl (ls' := #[.val (.ref s), .val (.ref a), .val (.int (0 : Int32)), .val (.int (Int32.ofNat cs.length)), .val (.null), .val (.ref b)]) rfl ?_
      refine Go.aloadN D (pc' := 42) d5_41 rfl rfl rfl ?_
      refine Go.aload D (pc' := 44) d5_42 rfl rfl rfl ?_
      refine Go.iloadN D (pc' := 45) d5_44 rfl rfl ?_
      refine Go.callS D (argsL := [(.ref b), (.int (Int32.ofNat cs.length))]) (rest := [(.ref s)]) (pc' := 48) (ce' := 1) (sl' := 64) (con_coder l Z a0 hw h1 n0 σ b kb _ _ B1) (hw _ (List.mem_of_getElem? (i := 34) rfl)) (hw _ (List.mem_of_getElem? (i := 35) rfl)) (hw _ (List.mem_of_getElem? (i := 28) rfl)) (hw _ (List.mem_of_getElem? (i := 36) rfl)) (by decide) d5_45 rfl pd9 rfl rfl rfl (by decide) (W := 1) rfl (by decide) (by decide) (by decide) (by decide) (by decide) ?_
      intro v45 h2 σ45 q45
      obtain ⟨rfl, rfl, rfl⟩ := q45
      show Go κ σ h1 1 64 48 #[.val (.ref s), .val (.ref a), .val (.int (0 : Int32)), .val (.int (Int32.ofNat cs.length)), .val (.null), .val (.ref b)] [(.int (0 : Int32)), (.ref s)]
      refine Go.putF D (pc' := 51) (hw _ (List.mem_of_getElem? (i := 37) rfl)) d5_48 rfl (Fc.ext E1) (E.ext E1) (Or.inr ⟨(hw _ (List.mem_of_getElem? (i := 38) rfl)), rfl, rfl⟩) (hw _ (List.mem_of_getElem? (i := 12) rfl)) (ty := .byte) (by decide) rfl rfl g0 ?_
      intro h3 W3
      refine Go.aloadN D (pc' := 52) d5_51 rfl rfl rfl ?_
      refine Go.aload D (pc' := 54) d5_52 rfl rfl rfl ?_
      refine Go.putF D (pc' := 57) (hw _ (List.mem_of_getElem? (i := 39) rfl)) d5_54 rfl ((Fv.ext E1).other W3 (Or.inr (slot_ne (Or.inr (hw _ (List.mem_of_getElem? (i := 40) rfl))) (Or.inr (hw _ (List.mem_of_getElem? (i := 38) rfl))) (by decide) (t := .array .byte) (t' := .byte) (by decide) (by decide)))) ((E.ext E1).wr W3) (Or.inr ⟨(hw _ (List.mem_of_getElem? (i := 40) rfl)), rfl, rfl⟩) (hw _ (List.mem_of_getElem? (i := 12) rfl)) (ty := (.array .byte)) (by decide) rfl rfl g0 ?_
      intro h4 W4
      refine Go.vret D rfl d5_57 (by decide) (by decide) ?_
      have nb : b ≠ s := own_ne (by omega)
      refine ⟨rfl, rfl, ?_, ⟨⟨((E.ext E1).wr W3).wr W4, ((Fc.ext E1).same W3).other W4 (Or.inr (slot_ne (Or.inr (hw _ (List.mem_of_getElem? (i := 38) rfl))) (Or.inr (hw _ (List.mem_of_getElem? (i := 40) rfl))) (by decide) (t := .byte) (t' := .array .byte) (by decide) (by decide))), b, kb, ((Fv.ext E1).other W3 (Or.inr (slot_ne (Or.inr (hw _ (List.mem_of_getElem? (i := 40) rfl))) (Or.inr (hw _ (List.mem_of_getElem? (i := 38) rfl))) (by decide) (t := .array .byte) (t' := .byte) (by decide) (by decide)))).same W4, (B1.other W3 nb).other W4 nb⟩, hp⟩, b, ((Fv.ext E1).other W3 (Or.inr (slot_ne (Or.inr (hw _ (List.mem_of_getElem? (i := 40) rfl))) (Or.inr (hw _ (List.mem_of_getElem? (i := 38) rfl))) (by decide) (t := .array .byte) (t' := .byte) (by decide) (by decide)))).same W4, (XB.wr W3).wr W4⟩
      exact (((Keep.refl _ _).ext E1).wr W3 (Or.inl (by simp))).wr W4 (Or.inl (by simp))
  · intro (hc5 : (Int32.ofNat cs.length) = 0)
    exact absurd (own_inj (j := 0) (by omega) (by omega) hc5) (by omega)
abbrev y13 : MethodName := ⟨"java/util/Objects", "requireNonNull", "(Ljava/lang/Object;Ljava/lang/String;)Ljava/lang/Object;"⟩
theorem d13_0 : decode jdk_31_method_11_code 0 = .ok (.aload_n 0, 1) := by decide +kernel
theorem d13_1 : decode jdk_31_method_11_code 1 = .ok (.ifnonnull 12, 3) := by decide +kernel
theorem d13_13 : decode jdk_31_method_11_code 13 = .ok (.aload_n 0, 1) := by decide +kernel
theorem d13_14 : decode jdk_31_method_11_code 14 = .ok (.areturn, 1) := by decide +kernel
theorem pd13 : parseMethodDescriptor "(Ljava/lang/Object;Ljava/lang/String;)Ljava/lang/Object;" = some ⟨[(.object "java/lang/Object"), (.object "java/lang/String")], (some (.object "java/lang/Object"))⟩ := by decide +kernel
theorem pn13 : plainFor y13 = true := by first | exact plainFor_of_name (by first | (simp [plainName, overriddenIn]; done) | decide +kernel) | decide +kernel | rfl
set_option maxRecDepth 65536 in
set_option maxHeartbeats 40000000 in
theorem con_rnn (l : Launch) (Z : State) (a0 : Array Value) (hw : ∀ d ∈ tables_1, d.before a0 Z = true) (h0 : Heap) (n0 : Nat) (σ : Sg) (s u : Addr) :
    Con l Z y13 jdk_31_method_11_code 2 ((some (.object "java/lang/Object"))) ({ frames := 0, cells := 0, slots := 0, locals := 0 } : Room) [] #[(.ref s), (.ref u)] σ h0 n0 (fun v h τ => h0 = h ∧ σ = τ ∧ v = some (.ref s)) := by
  refine Con.of_go pn13 (ls := #[.val (.ref s), .val (.ref u)]) (fun m => by first | (simp [entryFrame, mkF, argsToLocals, Value.category]; done) | rfl) ?_
  intro κ D
  refine Go.aloadN D (pc' := 1) d13_0 rfl rfl rfl ?_
  refine Go.ifnonnullY D (pc' := 13) d13_1 (by decide) (by decide) ?_
  refine Go.aloadN D (pc' := 14) d13_13 rfl rfl rfl ?_
  refine Go.aret D rfl rfl rfl d13_14 (by decide) (by decide) ?_
  exact ⟨rfl, rfl, rfl⟩
abbrev y49 : MethodName := ⟨"java/lang/StringLatin1", "equals", "([B[B)Z"⟩
theorem d49_0 : decode jdk_43_method_13_code 0 = .ok (.aload_n 0, 1) := by decide +kernel
theorem d49_1 : decode jdk_43_method_13_code 1 = .ok (.arraylength, 1) := by decide +kernel
theorem d49_2 : decode jdk_43_method_13_code 2 = .ok (.aload_n 1, 1) := by decide +kernel
theorem d49_3 : decode jdk_43_method_13_code 3 = .ok (.arraylength, 1) := by decide +kernel
theorem d49_4 : decode jdk_43_method_13_code 4 = .ok (.if_icmp .ne 30, 3) := by decide +kernel
theorem d49_7 : decode jdk_43_method_13_code 7 = .ok (.iconst 0, 1) := by decide +kernel
theorem d49_8 : decode jdk_43_method_13_code 8 = .ok (.istore_n 2, 1) := by decide +kernel
theorem d49_9 : decode jdk_43_method_13_code 9 = .ok (.iload_n 2, 1) := by decide +kernel
theorem d49_10 : decode jdk_43_method_13_code 10 = .ok (.aload_n 0, 1) := by decide +kernel
theorem d49_11 : decode jdk_43_method_13_code 11 = .ok (.arraylength, 1) := by decide +kernel
theorem d49_12 : decode jdk_43_method_13_code 12 = .ok (.if_icmp .ge 20, 3) := by decide +kernel
theorem d49_15 : decode jdk_43_method_13_code 15 = .ok (.aload_n 0, 1) := by decide +kernel
theorem d49_16 : decode jdk_43_method_13_code 16 = .ok (.iload_n 2, 1) := by decide +kernel
theorem d49_17 : decode jdk_43_method_13_code 17 = .ok (.baload, 1) := by decide +kernel
theorem d49_18 : decode jdk_43_method_13_code 18 = .ok (.aload_n 1, 1) := by decide +kernel
theorem d49_19 : decode jdk_43_method_13_code 19 = .ok (.iload_n 2, 1) := by decide +kernel
theorem d49_20 : decode jdk_43_method_13_code 20 = .ok (.baload, 1) := by decide +kernel
theorem d49_21 : decode jdk_43_method_13_code 21 = .ok (.if_icmp .eq 5, 3) := by decide +kernel
theorem d49_24 : decode jdk_43_method_13_code 24 = .ok (.iconst 0, 1) := by decide +kernel
theorem d49_25 : decode jdk_43_method_13_code 25 = .ok (.ireturn, 1) := by decide +kernel
theorem d49_26 : decode jdk_43_method_13_code 26 = .ok (.iinc 2 1, 3) := by decide +kernel
theorem d49_29 : decode jdk_43_method_13_code 29 = .ok (.goto (-20), 3) := by decide +kernel
theorem d49_32 : decode jdk_43_method_13_code 32 = .ok (.iconst 1, 1) := by decide +kernel
theorem d49_33 : decode jdk_43_method_13_code 33 = .ok (.ireturn, 1) := by decide +kernel
theorem d49_34 : decode jdk_43_method_13_code 34 = .ok (.iconst 0, 1) := by decide +kernel
theorem d49_35 : decode jdk_43_method_13_code 35 = .ok (.ireturn, 1) := by decide +kernel
theorem pd49 : parseMethodDescriptor "([B[B)Z" = some ⟨[(.array .byte), (.array .byte)], (some .boolean)⟩ := by decide +kernel
theorem pn49 : plainFor y49 = true := by first | exact plainFor_of_name (by first | (simp [plainName, overriddenIn]; done) | decide +kernel) | decide +kernel | rfl
set_option maxRecDepth 65536 in
set_option maxHeartbeats 40000000 in
theorem con_leq (l : Launch) (Z : State) (a0 : Array Value) (hw : ∀ d ∈ tables_1, d.before a0 Z = true) (h0 : Heap) (n0 : Nat) (σ : Sg) (b d : Addr) (kb kd : ClassId) (cs ds : List Int32) (B : Arv Z h0 b kb .byte (Int32.ofNat cs.length) (bv cs) (.int 0)) (D0 : Arv Z h0 d kd .byte (Int32.ofNat ds.length) (bv ds) (.int 0)) (hp : Lat cs) (hq : Lat ds) :
    Con l Z y49 jdk_43_method_13_code 3 ((some .boolean)) ({ frames := 0, cells := 0, slots := 0, locals := 0 } : Room) [] #[(.ref b), (.ref d)] σ h0 n0 (fun v h τ => h0 = h ∧ σ = τ ∧ ∃ r, v = some (.int r) ∧ ((r = 1 ∧ cs = ds) ∨ (r = 0 ∧ ¬ cs = ds))) := by
  refine Con.of_go pn49 (ls := #[.val (.ref b), .val (.ref d), .unset]) (fun m => by first | (simp [entryFrame, mkF, argsToLocals, Value.category]; done) | rfl) ?_
  intro κ D
  have hl := hp.2
  have hl2 := hq.2
  refine Go.aloadN D (pc' := 1) d49_0 rfl rfl rfl ?_
  refine Go.alen D (pc' := 2) d49_1 rfl B ?_
  refine Go.aloadN D (pc' := 3) d49_2 rfl rfl rfl ?_
  refine Go.alen D (pc' := 4) d49_3 rfl D0 ?_
  refine Go.icmp D (pc' := 34) (pc2 := 7) d49_4 (by decide) (by decide) rfl ?_ ?_
  · intro (hc4 : ¬ (Int32.ofNat cs.length) = (Int32.ofNat ds.length))
    refine Go.iconst D (pc' := 35) d49_34 rfl (v := (0 : Int32)) rfl ?_
    refine Go.zret D rfl rfl d49_35 (by decide) (by decide) ?_
    exact ⟨rfl, rfl, _, rfl, Or.inr ⟨rfl, fun z => hc4 (by rw [z])⟩⟩
  · intro (hc4 : (Int32.ofNat cs.length) = (Int32.ofNat ds.length))
    have hel : cs.length = ds.length := own_inj (by omega) (by omega) hc4
    have loop : ∀ (N i : Nat), cs.length - i = N → i ≤ cs.length → (∀ j, j < i → cs[j]? = ds[j]?) → Go κ σ h0 0 0 9 #[.val (.ref b), .val (.ref d), .val (.int (Int32.ofNat i))] [] := by
      intro N
      induction N using Nat.strongRecOn with
      | _ N ih =>
        intro i hN hi0 hsame
        refine Go.iloadN D (pc' := 10) d49_9 rfl rfl ?_
        refine Go.aloadN D (pc' := 11) d49_10 rfl rfl rfl ?_
        refine Go.alen D (pc' := 12) d49_11 rfl B ?_
        refine Go.icmp D (pc' := 32) (pc2 := 15) d49_12 (by decide) (by decide) rfl ?_ ?_
        · intro (hc12 : ¬ (Int32.ofNat i) < (Int32.ofNat cs.length))
          refine Go.iconst D (pc' := 33) d49_32 rfl (v := (1 : Int32)) rfl ?_
          refine Go.zret D rfl rfl d49_33 (by decide) (by decide) ?_
          refine ⟨rfl, rfl, _, rfl, Or.inl ⟨rfl, ?_⟩⟩
          have hi : i = cs.length := by
            have : ¬ i < cs.length := fun q => hc12 ((own_lt (by omega) (by omega)).mpr q)
            omega
          apply List.ext_getElem? fun j => ?_
          by_cases q : j < cs.length
          · exact hsame j (by omega)
          · rw [List.getElem?_eq_none (by omega), List.getElem?_eq_none (by omega)]
        · intro (hc12 : (Int32.ofNat i) < (Int32.ofNat cs.length))
          have hi : i < cs.length := (own_lt (by omega) (by omega)).mp hc12
          refine Go.aloadN D (pc' := 16) d49_15 rfl rfl rfl ?_
          refine Go.iloadN D (pc' := 17) d49_16 rfl rfl ?_
          refine Go.baload D (pc' := 18) d49_17 rfl B (own_nn (by omega)) hc12 (v := .int cs[i].toInt8.toInt32) (by rw [own_tn (by omega)]; exact bv_at hi _) ?_
          refine Go.aloadN D (pc' := 19) d49_18 rfl rfl rfl ?_
          refine Go.iloadN D (pc' := 20) d49_19 rfl rfl ?_
          refine Go.baload D (pc' := 21) d49_20 rfl D0 (own_nn (by omega)) ((own_lt (by omega) (by omega)).mpr (by omega)) (v := .int (ds[i]'(hel ▸ hi)).toInt8.toInt32) (by rw [own_tn (by omega)]; exact bv_at (hel ▸ hi) _) ?_
          refine Go.icmp D (pc' := 26) (pc2 := 24) d49_21 (by decide) (by decide) rfl ?_ ?_
          · intro (hc21 : cs[i].toInt8.toInt32 = (ds[i]'(hel ▸ hi)).toInt8.toInt32)
            refine Go.iinc D (pc' := 29) d49_26 rfl rfl (d := (1 : Int32)) rfl (ls' := #[.val (.ref b), .val (.ref d), .val (.int ((Int32.ofNat i) + (1 : Int32)))]) rfl ?_
            refine Go.goto D (pc' := 9) d49_29 (by decide) (by decide) ?_
            rw [own_succ]
            exact ih (cs.length - (i + 1)) (by omega) (i + 1) rfl (by omega) (fun j hj => (Nat.lt_or_eq_of_le (Nat.le_of_lt_succ hj)).elim (fun z => hsame j z) (fun z => by subst z; rw [List.getElem?_eq_getElem hi, List.getElem?_eq_getElem (hel ▸ hi), byte_inj (hp.1 _ (List.getElem_mem hi)) (hq.1 _ (List.getElem_mem (hel ▸ hi))) hc21]))
          · intro (hc21 : ¬ cs[i].toInt8.toInt32 = (ds[i]'(hel ▸ hi)).toInt8.toInt32)
            refine Go.iconst D (pc' := 25) d49_24 rfl (v := (0 : Int32)) rfl ?_
            refine Go.zret D rfl rfl d49_25 (by decide) (by decide) ?_
            refine ⟨rfl, rfl, _, rfl, Or.inr ⟨rfl, fun z => ?_⟩⟩
            subst z
            exact hc21 rfl
    refine Go.iconst D (pc' := 8) d49_7 rfl (v := (0 : Int32)) rfl ?_
    refine Go.istoreN D (pc' := 9) d49_8 rfl (ls' := #[.val (.ref b), .val (.ref d), .val (.int (0 : Int32))]) rfl ?_
    exact loop (cs.length - 0) 0 rfl (by omega) (fun j hj => absurd hj (Nat.not_lt_zero j))
abbrev y35 : MethodName := ⟨"java/lang/String", "equals", "(Ljava/lang/Object;)Z"⟩
theorem d35_0 : decode jdk_42_method_66_code 0 = .ok (.aload_n 0, 1) := by decide +kernel
theorem d35_1 : decode jdk_42_method_66_code 1 = .ok (.aload_n 1, 1) := by decide +kernel
theorem d35_2 : decode jdk_42_method_66_code 2 = .ok (.if_acmp .ne 5, 3) := by decide +kernel
theorem d35_5 : decode jdk_42_method_66_code 5 = .ok (.iconst 1, 1) := by decide +kernel
theorem d35_6 : decode jdk_42_method_66_code 6 = .ok (.ireturn, 1) := by decide +kernel
theorem d35_7 : decode jdk_42_method_66_code 7 = .ok (.aload_n 1, 1) := by decide +kernel
theorem d35_8 : decode jdk_42_method_66_code 8 = .ok (.instanceof 10, 3) := by decide +kernel
theorem d35_11 : decode jdk_42_method_66_code 11 = .ok (.ifCond .eq 43, 3) := by decide +kernel
theorem d35_14 : decode jdk_42_method_66_code 14 = .ok (.aload_n 1, 1) := by decide +kernel
theorem d35_15 : decode jdk_42_method_66_code 15 = .ok (.checkcast 10, 3) := by decide +kernel
theorem d35_18 : decode jdk_42_method_66_code 18 = .ok (.astore_n 2, 1) := by decide +kernel
theorem d35_19 : decode jdk_42_method_66_code 19 = .ok (.getstatic 38, 3) := by decide +kernel
theorem d35_22 : decode jdk_42_method_66_code 22 = .ok (.ifCond .eq 14, 3) := by decide +kernel
theorem d35_25 : decode jdk_42_method_66_code 25 = .ok (.aload_n 0, 1) := by decide +kernel
theorem d35_26 : decode jdk_42_method_66_code 26 = .ok (.getfield 15, 3) := by decide +kernel
theorem d35_29 : decode jdk_42_method_66_code 29 = .ok (.aload_n 2, 1) := by decide +kernel
theorem d35_30 : decode jdk_42_method_66_code 30 = .ok (.getfield 15, 3) := by decide +kernel
theorem d35_33 : decode jdk_42_method_66_code 33 = .ok (.if_icmp .ne 21, 3) := by decide +kernel
theorem d35_36 : decode jdk_42_method_66_code 36 = .ok (.aload_n 0, 1) := by decide +kernel
theorem d35_37 : decode jdk_42_method_66_code 37 = .ok (.getfield 9, 3) := by decide +kernel
theorem d35_40 : decode jdk_42_method_66_code 40 = .ok (.aload_n 2, 1) := by decide +kernel
theorem d35_41 : decode jdk_42_method_66_code 41 = .ok (.getfield 9, 3) := by decide +kernel
theorem d35_44 : decode jdk_42_method_66_code 44 = .ok (.invokestatic 541, 3) := by decide +kernel
theorem d35_47 : decode jdk_42_method_66_code 47 = .ok (.ifCond .eq 7, 3) := by decide +kernel
theorem d35_50 : decode jdk_42_method_66_code 50 = .ok (.iconst 1, 1) := by decide +kernel
theorem d35_51 : decode jdk_42_method_66_code 51 = .ok (.goto 4, 3) := by decide +kernel
theorem d35_54 : decode jdk_42_method_66_code 54 = .ok (.iconst 0, 1) := by decide +kernel
theorem d35_55 : decode jdk_42_method_66_code 55 = .ok (.ireturn, 1) := by decide +kernel
theorem pd35 : parseMethodDescriptor "(Ljava/lang/Object;)Z" = some ⟨[(.object "java/lang/Object")], (some .boolean)⟩ := by decide +kernel
theorem pn35 : plainFor y35 = true := by first | exact plainFor_of_name (by first | (simp [plainName, overriddenIn]; done) | decide +kernel) | decide +kernel | rfl
set_option maxRecDepth 65536 in
set_option maxHeartbeats 40000000 in
theorem con_seq (l : Launch) (Z : State) (a0 : Array Value) (hw : ∀ d ∈ tables_1, d.before a0 Z = true) (h0 : Heap) (n0 : Nat) (σ : Sg) (s u : Addr) (cs ds : List Int32) (S : Str Z h0 s cs) (U : Str Z h0 u ds) (cz : Int32) (hcz : ¬ cz = 0) (O2 : Sta Z Z.heap "java/lang/String" "COMPACT_STRINGS" "Z" (.int cz)) :
    Con l Z y35 jdk_42_method_66_code 3 ((some .boolean)) ({ frames := 1, cells := 0, slots := 0, locals := 14 } : Room) [] #[(.ref s), (.ref u)] σ h0 n0 (fun v h τ => h0 = h ∧ σ = τ ∧ ∃ r, v = some (.int r) ∧ ((r = 1 ∧ cs = ds) ∨ (r = 0 ∧ ¬ cs = ds))) := by
  refine Con.of_go pn35 (ls := #[.val (.ref s), .val (.ref u), .unset]) (fun m => by first | (simp [entryFrame, mkF, argsToLocals, Value.category]; done) | rfl) ?_
  intro κ D
  obtain ⟨e1, e2, b, kb, e3, e4⟩ := id S.1
  obtain ⟨f1, f2, d, kd, f3, f4⟩ := id U.1
  refine Go.aloadN D (pc' := 1) d35_0 rfl rfl rfl ?_
  refine Go.aloadN D (pc' := 2) d35_1 rfl rfl rfl ?_
  refine Go.acmpNe D (pc' := 7) (pc2 := 5) rfl rfl d35_2 (by decide) (by decide) rfl ?_ ?_
  · intro (hc2 : ¬ (.ref s : Value) = .ref u)
    refine Go.aloadN D (pc' := 8) d35_7 rfl rfl rfl ?_
    refine Go.instY D (pc' := 11) (hw _ (List.mem_of_getElem? (i := 227) rfl)) d35_8 rfl (Ins.self f1) ?_
    refine Go.ifc D (pc' := 54) (pc2 := 14) d35_11 (by decide) (by decide) rfl (fun (hc : (1 : Int32) = 0) => absurd hc (by decide)) (fun _ => ?_)
    refine Go.aloadN D (pc' := 15) d35_14 rfl rfl rfl ?_
    refine Go.castY D (pc' := 18) (hw _ (List.mem_of_getElem? (i := 227) rfl)) d35_15 rfl (Ins.self f1) ?_
    refine Go.astoreN D (pc' := 19) d35_18 rfl rfl (ls' := #[.val (.ref s), .val (.ref u), .val (.ref u)]) rfl ?_
    refine Go.getS D (pc' := 22) (hw _ (List.mem_of_getElem? (i := 25) rfl)) d35_19 rfl O2 ?_
    refine Go.ifc D (pc' := 36) (pc2 := 25) d35_22 (by decide) (by decide) rfl ?_ ?_
    · intro (hc22 : cz = 0)
      exact absurd hc22 hcz
    · intro (hc22 : ¬ cz = 0)
      refine Go.aloadN D (pc' := 26) d35_25 rfl rfl rfl ?_
      refine Go.getF D (pc' := 29) (hw _ (List.mem_of_getElem? (i := 37) rfl)) d35_26 rfl e2 ?_
      refine Go.aloadN D (pc' := 30) d35_29 rfl rfl rfl ?_
      refine Go.getF D (pc' := 33) (hw _ (List.mem_of_getElem? (i := 37) rfl)) d35_30 rfl f2 ?_
      refine Go.icmp D (pc' := 54) (pc2 := 36) d35_33 (by decide) (by decide) rfl (fun (hc : ¬ (0 : Int32) = (0 : Int32)) => absurd hc (by decide)) (fun _ => ?_)
      refine Go.aloadN D (pc' := 37) d35_36 rfl rfl rfl ?_
      refine Go.getF D (pc' := 40) (hw _ (List.mem_of_getElem? (i := 39) rfl)) d35_37 rfl e3 ?_
      refine Go.aloadN D (pc' := 41) d35_40 rfl rfl rfl ?_
      refine Go.getF D (pc' := 44) (hw _ (List.mem_of_getElem? (i := 39) rfl)) d35_41 rfl f3 ?_
      refine Go.callS D (argsL := [(.ref b), (.ref d)]) (rest := []) (pc' := 47) (ce' := 0) (sl' := 0) (con_leq l Z a0 hw h0 n0 σ b d kb kd cs ds e4 f4 S.2 U.2) (hw _ (List.mem_of_getElem? (i := 228) rfl)) (hw _ (List.mem_of_getElem? (i := 229) rfl)) (hw _ (List.mem_of_getElem? (i := 93) rfl)) (hw _ (List.mem_of_getElem? (i := 230) rfl)) (by decide) d35_44 rfl pd49 rfl rfl rfl (by decide) (W := 0) rfl (by decide) (by decide) (by decide) (by decide) (by decide) ?_
      intro v44 h1 σ44 q44
      obtain ⟨rfl, rfl, r, rfl, hr⟩ := q44
      show Go κ σ h0 0 0 47 #[.val (.ref s), .val (.ref u), .val (.ref u)] [(.int r)]
      refine Go.ifc D (pc' := 54) (pc2 := 50) d35_47 (by decide) (by decide) rfl ?_ ?_
      · intro (hc47 : r = 0)
        refine Go.iconst D (pc' := 55) d35_54 rfl (v := (0 : Int32)) rfl ?_
        refine Go.zret D rfl rfl d35_55 (by decide) (by decide) ?_
        exact ⟨rfl, rfl, _, rfl, Or.inr ⟨rfl, hr.elim (fun z => absurd hc47 (by rw [z.1]; decide)) (fun z => z.2)⟩⟩
      · intro (hc47 : ¬ r = 0)
        refine Go.iconst D (pc' := 51) d35_50 rfl (v := (1 : Int32)) rfl ?_
        refine Go.goto D (pc' := 55) d35_51 (by decide) (by decide) ?_
        refine Go.zret D rfl rfl d35_55 (by decide) (by decide) ?_
        exact ⟨rfl, rfl, _, rfl, Or.inl ⟨rfl, hr.elim (fun z => z.2) (fun z => absurd z.1 hc47)⟩⟩
  · intro (hc2 : (.ref s : Value) = .ref u)
    refine Go.iconst D (pc' := 6) d35_5 rfl (v := (1 : Int32)) rfl ?_
    refine Go.zret D rfl rfl d35_6 (by decide) (by decide) ?_
    have e : s = u := by injection hc2
    subst e
    exact ⟨rfl, rfl, _, rfl, Or.inl ⟨rfl, S.uniq U⟩⟩
theorem shl_tab : ∀ i : Fin 65, (Int32.ofNat i.1 <<< ((1 : Int32) &&& 31)) = Int32.ofNat (2 * i.1) := by decide
theorem own_shl1 {k : Nat} (hk : k ≤ 64) : (Int32.ofNat k <<< ((1 : Int32) &&& 31)) = Int32.ofNat (2 * k) := shl_tab ⟨k, by omega⟩
abbrev y38 : MethodName := ⟨"java/lang/StringUTF16", "newBytesLength", "(I)I"⟩
theorem d38_0 : decode jdk_52_method_3_code 0 = .ok (.iload_n 0, 1) := by decide +kernel
theorem d38_1 : decode jdk_52_method_3_code 1 = .ok (.ifCond .ge 11, 3) := by decide +kernel
theorem d38_12 : decode jdk_52_method_3_code 12 = .ok (.iload_n 0, 1) := by decide +kernel
theorem d38_13 : decode jdk_52_method_3_code 13 = .ok (.ldc 20, 2) := by decide +kernel
theorem d38_15 : decode jdk_52_method_3_code 15 = .ok (.if_icmp .lt 40, 3) := by decide +kernel
theorem d38_55 : decode jdk_52_method_3_code 55 = .ok (.iload_n 0, 1) := by decide +kernel
theorem d38_56 : decode jdk_52_method_3_code 56 = .ok (.iconst 1, 1) := by decide +kernel
theorem d38_57 : decode jdk_52_method_3_code 57 = .ok (.ishl, 1) := by decide +kernel
theorem d38_58 : decode jdk_52_method_3_code 58 = .ok (.ireturn, 1) := by decide +kernel
theorem pd38 : parseMethodDescriptor "(I)I" = some ⟨[.int], (some .int)⟩ := by decide +kernel
theorem pn38 : plainFor y38 = true := by first | exact plainFor_of_name (by first | (simp [plainName, overriddenIn]; done) | decide +kernel) | decide +kernel | rfl
set_option maxRecDepth 65536 in
set_option maxHeartbeats 40000000 in
theorem con_nbl (l : Launch) (Z : State) (a0 : Array Value) (hw : ∀ d ∈ tables_1, d.before a0 Z = true) (h0 : Heap) (n0 : Nat) (σ : Sg) (k : Nat) (hk : k ≤ 64) :
    Con l Z y38 jdk_52_method_3_code 1 ((some .int)) ({ frames := 0, cells := 0, slots := 0, locals := 0 } : Room) [] #[(.int (Int32.ofNat k))] σ h0 n0 (fun v h τ => h0 = h ∧ σ = τ ∧ v = some (.int (Int32.ofNat (2 * k)))) := by
  refine Con.of_go pn38 (ls := #[.val (.int (Int32.ofNat k))]) (fun m => by first | (simp [entryFrame, mkF, argsToLocals, Value.category]; done) | rfl) ?_
  intro κ D
  refine Go.iloadN D (pc' := 1) d38_0 rfl rfl ?_
  refine Go.ifc D (pc' := 12) (pc2 := 4) d38_1 (by decide) (by decide) rfl ?_ ?_
  · intro (hc1 : ¬ (Int32.ofNat k) < 0)
    refine Go.iloadN D (pc' := 13) d38_12 rfl rfl ?_
    refine Go.ldcInt D (pc' := 15) (hw _ (List.mem_of_getElem? (i := 190) rfl)) d38_13 rfl ?_
    refine Go.icmp D (pc' := 55) (pc2 := 18) d38_15 (by decide) (by decide) rfl ?_ ?_
    · intro (hc15 : (Int32.ofNat k) < (1073741823 : Int32))
      refine Go.iloadN D (pc' := 56) d38_55 rfl rfl ?_
      refine Go.iconst D (pc' := 57) d38_56 rfl (v := (1 : Int32)) rfl ?_
      refine Go.ishl D (pc' := 58) d38_57 rfl  ?_
      rw [own_shl1 hk]
      refine Go.iret D rfl d38_58 (by decide) (by decide) ?_
      exact ⟨rfl, rfl, rfl⟩
    · intro (hc15 : ¬ (Int32.ofNat k) < (1073741823 : Int32))
      exact absurd ((own_lt (i := k) (j := 1073741823) (by omega) (by omega)).mpr (by omega)) hc15
  · intro (hc1 : (Int32.ofNat k) < 0)
    exact absurd hc1 (own_nn (by omega))
abbrev y37 : MethodName := ⟨"java/lang/StringUTF16", "newBytesFor", "(I)[B"⟩
theorem d37_0 : decode jdk_52_method_2_code 0 = .ok (.iload_n 0, 1) := by decide +kernel
theorem d37_1 : decode jdk_52_method_2_code 1 = .ok (.invokestatic 11, 3) := by decide +kernel
theorem d37_4 : decode jdk_52_method_2_code 4 = .ok (.newarray .byte, 2) := by decide +kernel
theorem d37_6 : decode jdk_52_method_2_code 6 = .ok (.areturn, 1) := by decide +kernel
theorem pd37 : parseMethodDescriptor "(I)[B" = some ⟨[.int], (some (.array .byte))⟩ := by decide +kernel
theorem pn37 : plainFor y37 = true := by first | exact plainFor_of_name (by first | (simp [plainName, overriddenIn]; done) | decide +kernel) | decide +kernel | rfl
set_option maxRecDepth 65536 in
set_option maxHeartbeats 40000000 in
theorem con_nbf (l : Launch) (Z : State) (a0 : Array Value) (hw : ∀ d ∈ tables_1, d.before a0 Z = true) (h0 : Heap) (n0 : Nat) (σ : Sg) (k : Nat) (hk : k ≤ 4) :
    Con l Z y37 jdk_52_method_2_code 1 ((some (.array .byte))) ({ frames := 1, cells := 1, slots := 8, locals := 14 } : Room) [] #[(.int (Int32.ofNat k))] σ h0 n0 (fun v h τ => σ = τ ∧ ∃ b kb, v = some (.ref b) ∧ h0.size ≤ b ∧ Ext h0 h ∧ Arv Z h b kb .byte (Int32.ofNat (2 * k)) (List.replicate (2 * k) (.int 0)) (.int 0)) := by
  refine Con.of_go pn37 (ls := #[.val (.int (Int32.ofNat k))]) (fun m => by first | (simp [entryFrame, mkF, argsToLocals, Value.category]; done) | rfl) ?_
  intro κ D
  refine Go.iloadN D (pc' := 1) d37_0 rfl rfl ?_
  refine Go.callS D (argsL := [(.int (Int32.ofNat k))]) (rest := []) (pc' := 4) (ce' := 0) (sl' := 0) (con_nbl l Z a0 hw h0 n0 σ k (by omega)) (hw _ (List.mem_of_getElem? (i := 187) rfl)) (hw _ (List.mem_of_getElem? (i := 188) rfl)) (hw _ (List.mem_of_getElem? (i := 28) rfl)) (hw _ (List.mem_of_getElem? (i := 189) rfl)) (by decide) d37_1 rfl pd38 rfl rfl rfl (by decide) (W := 0) rfl (by decide) (by decide) (by decide) (by decide) (by decide) ?_
  intro v1 h1 σ1 q1
  obtain ⟨rfl, rfl, rfl⟩ := q1
  show Go κ σ h0 0 0 4 #[.val (.int (Int32.ofNat k))] [(.int (Int32.ofNat (2 * k)))]
  refine Go.newP D (pc' := 6) (aty := .byte) (cap := 8) (ce' := 1) (sl' := 8) (hw _ (List.mem_of_getElem? (i := 30) rfl)) d37_4 rfl (own_nn (by omega)) (by rw [own_tn (by omega)]; omega) (by decide) rfl rfl (by decide) (by decide) ?_
  intro h1 b kb gb E1 B1
  refine Go.aret D rfl rfl rfl d37_6 (by decide) (by decide) ?_
  exact ⟨rfl, b, kb, rfl, by omega, E1, B1.pad (fun i => pad_rep [] (.int 0) (2 * k) i)⟩
abbrev y51 : MethodName := ⟨"java/lang/Math", "min", "(II)I"⟩
theorem d51_0 : decode jdk_29_method_69_code 0 = .ok (.iload_n 0, 1) := by decide +kernel
theorem d51_1 : decode jdk_29_method_69_code 1 = .ok (.iload_n 1, 1) := by decide +kernel
theorem d51_2 : decode jdk_29_method_69_code 2 = .ok (.if_icmp .gt 7, 3) := by decide +kernel
theorem d51_5 : decode jdk_29_method_69_code 5 = .ok (.iload_n 0, 1) := by decide +kernel
theorem d51_6 : decode jdk_29_method_69_code 6 = .ok (.goto 4, 3) := by decide +kernel
theorem d51_9 : decode jdk_29_method_69_code 9 = .ok (.iload_n 1, 1) := by decide +kernel
theorem d51_10 : decode jdk_29_method_69_code 10 = .ok (.ireturn, 1) := by decide +kernel
theorem pd51 : parseMethodDescriptor "(II)I" = some ⟨[.int, .int], (some .int)⟩ := by decide +kernel
theorem pn51 : plainFor y51 = true := by first | exact plainFor_of_name (by first | (simp [plainName, overriddenIn]; done) | decide +kernel) | decide +kernel | rfl
set_option maxRecDepth 65536 in
set_option maxHeartbeats 40000000 in
theorem con_min (l : Launch) (Z : State) (a0 : Array Value) (hw : ∀ d ∈ tables_1, d.before a0 Z = true) (h0 : Heap) (n0 : Nat) (σ : Sg) (x z : Int32) :
    Con l Z y51 jdk_29_method_69_code 2 ((some .int)) ({ frames := 0, cells := 0, slots := 0, locals := 0 } : Room) [] #[(.int x), (.int z)] σ h0 n0 (fun v h τ => h0 = h ∧ σ = τ ∧ ∃ r, v = some (.int r) ∧ ((z < x ∧ r = z) ∨ (¬ z < x ∧ r = x))) := by
  refine Con.of_go pn51 (ls := #[.val (.int x), .val (.int z)]) (fun m => by first | (simp [entryFrame, mkF, argsToLocals, Value.category]; done) | rfl) ?_
  intro κ D
  refine Go.iloadN D (pc' := 1) d51_0 rfl rfl ?_
  refine Go.iloadN D (pc' := 2) d51_1 rfl rfl ?_
  refine Go.icmp D (pc' := 9) (pc2 := 5) d51_2 (by decide) (by decide) rfl ?_ ?_
  · intro (hc2 : z < x)
    refine Go.iloadN D (pc' := 10) d51_9 rfl rfl ?_
    refine Go.iret D rfl d51_10 (by decide) (by decide) ?_
    exact ⟨rfl, rfl, _, rfl, Or.inl ⟨hc2, rfl⟩⟩
  · intro (hc2 : ¬ z < x)
    refine Go.iloadN D (pc' := 6) d51_5 rfl rfl ?_
    refine Go.goto D (pc' := 10) d51_6 (by decide) (by decide) ?_
    refine Go.iret D rfl d51_10 (by decide) (by decide) ?_
    exact ⟨rfl, rfl, _, rfl, Or.inr ⟨hc2, rfl⟩⟩
abbrev y50 : MethodName := ⟨"java/util/Arrays", "copyOf", "([BI)[B"⟩
theorem d50_0 : decode jdk_65_method_121_code 0 = .ok (.iload_n 1, 1) := by decide +kernel
theorem d50_1 : decode jdk_65_method_121_code 1 = .ok (.aload_n 0, 1) := by decide +kernel
theorem d50_2 : decode jdk_65_method_121_code 2 = .ok (.arraylength, 1) := by decide +kernel
theorem d50_3 : decode jdk_65_method_121_code 3 = .ok (.if_icmp .ne 11, 3) := by decide +kernel
theorem d50_14 : decode jdk_65_method_121_code 14 = .ok (.iload_n 1, 1) := by decide +kernel
theorem d50_15 : decode jdk_65_method_121_code 15 = .ok (.newarray .byte, 2) := by decide +kernel
theorem d50_17 : decode jdk_65_method_121_code 17 = .ok (.astore_n 2, 1) := by decide +kernel
theorem d50_18 : decode jdk_65_method_121_code 18 = .ok (.aload_n 0, 1) := by decide +kernel
theorem d50_19 : decode jdk_65_method_121_code 19 = .ok (.iconst 0, 1) := by decide +kernel
theorem d50_20 : decode jdk_65_method_121_code 20 = .ok (.aload_n 2, 1) := by decide +kernel
theorem d50_21 : decode jdk_65_method_121_code 21 = .ok (.iconst 0, 1) := by decide +kernel
theorem d50_22 : decode jdk_65_method_121_code 22 = .ok (.aload_n 0, 1) := by decide +kernel
theorem d50_23 : decode jdk_65_method_121_code 23 = .ok (.arraylength, 1) := by decide +kernel
theorem d50_24 : decode jdk_65_method_121_code 24 = .ok (.iload_n 1, 1) := by decide +kernel
theorem d50_25 : decode jdk_65_method_121_code 25 = .ok (.invokestatic 304, 3) := by decide +kernel
theorem d50_28 : decode jdk_65_method_121_code 28 = .ok (.invokestatic 150, 3) := by decide +kernel
theorem d50_31 : decode jdk_65_method_121_code 31 = .ok (.aload_n 2, 1) := by decide +kernel
theorem d50_32 : decode jdk_65_method_121_code 32 = .ok (.areturn, 1) := by decide +kernel
theorem pd50 : parseMethodDescriptor "([BI)[B" = some ⟨[(.array .byte), .int], (some (.array .byte))⟩ := by decide +kernel
theorem pn50 : plainFor y50 = true := by first | exact plainFor_of_name (by first | (simp [plainName, overriddenIn]; done) | decide +kernel) | decide +kernel | rfl
set_option maxRecDepth 65536 in
set_option maxHeartbeats 40000000 in
theorem con_cpB (l : Launch) (Z : State) (a0 : Array Value) (hw : ∀ d ∈ tables_1, d.before a0 Z = true) (h0 : Heap) (n0 : Nat) (Z0 : n0 ≤ h0.size) (σ : Sg) (a : Addr) (k : ClassId) (cap nl : Nat) (vs : List Value) (V : Arv Z h0 a k .byte (Int32.ofNat cap) vs (.int 0)) (h1 : nl < cap) (h2 : cap ≤ 8) :
    Con l Z y50 jdk_65_method_121_code 3 ((some (.array .byte))) ({ frames := 1, cells := 1, slots := 8, locals := 64 } : Room) [] #[(.ref a), (.int (Int32.ofNat nl))] σ h0 n0 (fun v h τ => σ = τ ∧ ∃ b k' vs', v = some (.ref b) ∧ h0.size ≤ b ∧ Ext h0 h ∧ Arv Z h b k' .byte (Int32.ofNat nl) vs' (.int 0)) := by
  refine Con.of_go pn50 (ls := #[.val (.ref a), .val (.int (Int32.ofNat nl)), .unset]) (fun m => by first | (simp [entryFrame, mkF, argsToLocals, Value.category]; done) | rfl) ?_
  intro κ D
  refine Go.iloadN D (pc' := 1) d50_0 rfl rfl ?_
  refine Go.aloadN D (pc' := 2) d50_1 rfl rfl rfl ?_
  refine Go.alen D (pc' := 3) d50_2 rfl V ?_
  refine Go.icmp D (pc' := 14) (pc2 := 6) d50_3 (by decide) (by decide) rfl ?_ ?_
  · intro (hc3 : ¬ (Int32.ofNat nl) = (Int32.ofNat cap))
    refine Go.iloadN D (pc' := 15) d50_14 rfl rfl ?_
    refine Go.newP D (pc' := 17) (aty := .byte) (cap := 8) (ce' := 1) (sl' := 8) (hw _ (List.mem_of_getElem? (i := 30) rfl)) d50_15 rfl (own_nn (by omega)) (by rw [own_tn (by omega)]; omega) (by decide) rfl rfl (by decide) (by decide) ?_
    intro h1 b kb gb E1 B1
    refine Go.astoreN D (pc' := 18) d50_17 rfl rfl (ls' := #[.val (.ref a), .val (.int (Int32.ofNat nl)), .val (.ref b)]) rfl ?_
    refine Go.aloadN D (pc' := 19) d50_18 rfl rfl rfl ?_
    refine Go.iconst D (pc' := 20) d50_19 rfl (v := (0 : Int32)) rfl ?_
    refine Go.aloadN D (pc' := 21) d50_20 rfl rfl rfl ?_
    refine Go.iconst D (pc' := 22) d50_21 rfl (v := (0 : Int32)) rfl ?_
    refine Go.aloadN D (pc' := 23) d50_22 rfl rfl rfl ?_
    refine Go.alen D (pc' := 24) d50_23 rfl (V.ext E1) ?_
    refine Go.iloadN D (pc' := 25) d50_24 rfl rfl ?_
    refine Go.callS D (argsL := [(.int (Int32.ofNat cap)), (.int (Int32.ofNat nl))]) (rest := [(.int (0 : Int32)), (.ref b), (.int (0 : Int32)), (.ref a)]) (pc' := 28) (ce' := 1) (sl' := 8) (con_min l Z a0 hw h1 n0 σ (Int32.ofNat cap) (Int32.ofNat nl)) (hw _ (List.mem_of_getElem? (i := 239) rfl)) (hw _ (List.mem_of_getElem? (i := 240) rfl)) (hw _ (List.mem_of_getElem? (i := 241) rfl)) (hw _ (List.mem_of_getElem? (i := 242) rfl)) (by decide) d50_25 rfl pd51 rfl rfl rfl (by decide) (W := 4) rfl (by decide) (by decide) (by decide) (by decide) (by decide) ?_
    intro v25 h25 σ25 q25
    obtain ⟨rfl, rfl, r, rfl, hr⟩ := q25
    obtain rfl : r = Int32.ofNat nl := hr.elim (fun z => z.2) (fun z => absurd ((own_lt (by omega) (by omega)).mpr (by omega)) z.1)
    show Go κ σ h1 1 8 28 #[.val (.ref a), .val (.int (Int32.ofNat nl)), .val (.ref b)] [(.int (Int32.ofNat nl)), (.int (0 : Int32)), (.ref b), (.int (0 : Int32)), (.ref a)]
    refine Go.acopy D (pc' := 31) (sN := 0) (dN := 0) (nN := nl) (hw _ (List.mem_of_getElem? (i := 243) rfl)) (hw _ (List.mem_of_getElem? (i := 246) rfl)) (hw _ (List.mem_of_getElem? (i := 244) rfl)) (hw _ (List.mem_of_getElem? (i := 245) rfl)) d50_28 rfl (V.ext E1) (B1.pad (vs' := List.replicate nl (.int 0)) (fun i => pad_rep [] (.int 0) nl i)) rfl (by decide) (by decide) (own_nn (by omega)) rfl rfl (own_tn (by omega)) (by rw [own_tn (by omega)]; omega) (by rw [own_tn (by omega)]; omega) (by simp <;> omega) (by omega) rfl (by decide) (W := 0) rfl (by decide) ?_
    intro h3 K3 B3
    refine Go.aloadN D (pc' := 32) d50_31 rfl rfl rfl ?_
    refine Go.aret D rfl rfl rfl d50_32 (by decide) (by decide) ?_
    exact ⟨rfl, b, kb, _, rfl, by omega, E1.keepN K3 (by omega), B3⟩
  · intro (hc3 : (Int32.ofNat nl) = (Int32.ofNat cap))
    exact absurd (own_inj (by omega) (by omega) hc3) (by omega)
abbrev y48 : MethodName := ⟨"java/lang/StringUTF16", "length", "([B)I"⟩
theorem d48_0 : decode jdk_52_method_6_code 0 = .ok (.aload_n 0, 1) := by decide +kernel
theorem d48_1 : decode jdk_52_method_6_code 1 = .ok (.arraylength, 1) := by decide +kernel
theorem d48_2 : decode jdk_52_method_6_code 2 = .ok (.iconst 1, 1) := by decide +kernel
theorem d48_3 : decode jdk_52_method_6_code 3 = .ok (.ishr, 1) := by decide +kernel
theorem d48_4 : decode jdk_52_method_6_code 4 = .ok (.ireturn, 1) := by decide +kernel
theorem pd48 : parseMethodDescriptor "([B)I" = some ⟨[(.array .byte)], (some .int)⟩ := by decide +kernel
theorem pn48 : plainFor y48 = true := by first | exact plainFor_of_name (by first | (simp [plainName, overriddenIn]; done) | decide +kernel) | decide +kernel | rfl
set_option maxRecDepth 65536 in
set_option maxHeartbeats 40000000 in
theorem con_lenU (l : Launch) (Z : State) (a0 : Array Value) (hw : ∀ d ∈ tables_1, d.before a0 Z = true) (h0 : Heap) (n0 : Nat) (σ : Sg) (b : Addr) (kb : ClassId) (n : Nat) (vs : List Value) (V : Arv Z h0 b kb .byte (Int32.ofNat (2 * n)) vs (.int 0)) (hn : n ≤ 64) :
    Con l Z y48 jdk_52_method_6_code 1 ((some .int)) ({ frames := 0, cells := 0, slots := 0, locals := 0 } : Room) [] #[(.ref b)] σ h0 n0 (fun v h τ => h0 = h ∧ σ = τ ∧ v = some (.int (Int32.ofNat n))) := by
  refine Con.of_go pn48 (ls := #[.val (.ref b)]) (fun m => by first | (simp [entryFrame, mkF, argsToLocals, Value.category]; done) | rfl) ?_
  intro κ D
  refine Go.aloadN D (pc' := 1) d48_0 rfl rfl rfl ?_
  refine Go.alen D (pc' := 2) d48_1 rfl V ?_
  refine Go.iconst D (pc' := 3) d48_2 rfl (v := (1 : Int32)) rfl ?_
  refine Go.ishr D (pc' := 4) d48_3 rfl  ?_
  rw [own_shr1 hn]
  refine Go.iret D rfl d48_4 (by decide) (by decide) ?_
  exact ⟨rfl, rfl, rfl⟩
abbrev y39 : MethodName := ⟨"java/lang/StringUTF16", "putChar", "([BII)V"⟩
theorem d39_0 : decode jdk_52_method_4_code 0 = .ok (.getstatic 44, 3) := by decide +kernel
theorem d39_3 : decode jdk_52_method_4_code 3 = .ok (.ifCond .ne 25, 3) := by decide +kernel
theorem d39_6 : decode jdk_52_method_4_code 6 = .ok (.iload_n 1, 1) := by decide +kernel
theorem d39_7 : decode jdk_52_method_4_code 7 = .ok (.ifCond .lt 11, 3) := by decide +kernel
theorem d39_10 : decode jdk_52_method_4_code 10 = .ok (.iload_n 1, 1) := by decide +kernel
theorem d39_11 : decode jdk_52_method_4_code 11 = .ok (.aload_n 0, 1) := by decide +kernel
theorem d39_12 : decode jdk_52_method_4_code 12 = .ok (.invokestatic 48, 3) := by decide +kernel
theorem d39_15 : decode jdk_52_method_4_code 15 = .ok (.if_icmp .lt 13, 3) := by decide +kernel
theorem d39_28 : decode jdk_52_method_4_code 28 = .ok (.iload_n 1, 1) := by decide +kernel
theorem d39_29 : decode jdk_52_method_4_code 29 = .ok (.iconst 1, 1) := by decide +kernel
theorem d39_30 : decode jdk_52_method_4_code 30 = .ok (.ishl, 1) := by decide +kernel
theorem d39_31 : decode jdk_52_method_4_code 31 = .ok (.istore_n 1, 1) := by decide +kernel
theorem d39_32 : decode jdk_52_method_4_code 32 = .ok (.aload_n 0, 1) := by decide +kernel
theorem d39_33 : decode jdk_52_method_4_code 33 = .ok (.iload_n 1, 1) := by decide +kernel
theorem d39_34 : decode jdk_52_method_4_code 34 = .ok (.iinc 1 1, 3) := by decide +kernel
theorem d39_37 : decode jdk_52_method_4_code 37 = .ok (.iload_n 2, 1) := by decide +kernel
theorem d39_38 : decode jdk_52_method_4_code 38 = .ok (.getstatic 59, 3) := by decide +kernel
theorem d39_41 : decode jdk_52_method_4_code 41 = .ok (.ishr, 1) := by decide +kernel
theorem d39_42 : decode jdk_52_method_4_code 42 = .ok (.i2b, 1) := by decide +kernel
theorem d39_43 : decode jdk_52_method_4_code 43 = .ok (.bastore, 1) := by decide +kernel
theorem d39_44 : decode jdk_52_method_4_code 44 = .ok (.aload_n 0, 1) := by decide +kernel
theorem d39_45 : decode jdk_52_method_4_code 45 = .ok (.iload_n 1, 1) := by decide +kernel
theorem d39_46 : decode jdk_52_method_4_code 46 = .ok (.iload_n 2, 1) := by decide +kernel
theorem d39_47 : decode jdk_52_method_4_code 47 = .ok (.getstatic 63, 3) := by decide +kernel
theorem d39_50 : decode jdk_52_method_4_code 50 = .ok (.ishr, 1) := by decide +kernel
theorem d39_51 : decode jdk_52_method_4_code 51 = .ok (.i2b, 1) := by decide +kernel
theorem d39_52 : decode jdk_52_method_4_code 52 = .ok (.bastore, 1) := by decide +kernel
theorem d39_53 : decode jdk_52_method_4_code 53 = .ok (.return_, 1) := by decide +kernel
theorem pd39 : parseMethodDescriptor "([BII)V" = some ⟨[(.array .byte), .int, .int], none⟩ := by decide +kernel
theorem pn39 : plainFor y39 = true := by first | exact plainFor_of_name (by first | (simp [plainName, overriddenIn]; done) | decide +kernel) | decide +kernel | rfl
set_option maxRecDepth 65536 in
set_option maxHeartbeats 40000000 in
theorem con_putc (l : Launch) (Z : State) (a0 : Array Value) (hw : ∀ d ∈ tables_1, d.before a0 Z = true) (h0 : Heap) (n0 : Nat) (σ : Sg) (d : Addr) (kd : ClassId) (m i : Nat) (c : Int32) (vs : List Value) (V : Arv Z h0 d kd .byte (Int32.ofNat m) vs (.int 0)) (hi : 2 * i + 1 < m) (hm : m ≤ 64) (hv : vs.length = m) (gd : n0 ≤ d) (AD : Sta Z Z.heap "java/lang/StringUTF16" "$assertionsDisabled" "Z" (.int 1)) (HI : Sta Z Z.heap "java/lang/StringUTF16" "HI_BYTE_SHIFT" "I" (.int 0)) (LO : Sta Z Z.heap "java/lang/StringUTF16" "LO_BYTE_SHIFT" "I" (.int 8)) :
    Con l Z y39 jdk_52_method_4_code 3 none ({ frames := 0, cells := 0, slots := 0, locals := 0 } : Room) [] #[(.ref d), (.int (Int32.ofNat i)), (.int c)] σ h0 n0 (fun v h τ => σ = τ ∧ v = none ∧ Keep h0 h [d] ∧ Arv Z h d kd .byte (Int32.ofNat m) ((vs.set (2 * i) (.int (c.toInt8.toInt32))).set (2 * i + 1) (.int ((c >>> ((8 : Int32) &&& 31)).toInt8.toInt32))) (.int 0)) := by
  refine Con.of_go pn39 (ls := #[.val (.ref d), .val (.int (Int32.ofNat i)), .val (.int c)]) (fun m => by first | (simp [entryFrame, mkF, argsToLocals, Value.category]; done) | rfl) ?_
  intro κ D
  refine Go.getS D (pc' := 3) (hw _ (List.mem_of_getElem? (i := 194) rfl)) d39_0 rfl AD ?_
  refine Go.ifc D (pc' := 28) (pc2 := 6) d39_3 (by decide) (by decide) rfl (fun _ => ?_) (fun (hc : (1 : Int32) = 0) => absurd hc (by decide))
  refine Go.iloadN D (pc' := 29) d39_28 rfl rfl ?_
  refine Go.iconst D (pc' := 30) d39_29 rfl (v := (1 : Int32)) rfl ?_
  refine Go.ishl D (pc' := 31) d39_30 rfl  ?_
  rw [own_shl1 (by omega)]
  refine Go.istoreN D (pc' := 32) d39_31 rfl (ls' := #[.val (.ref d), .val (.int (Int32.ofNat (2 * i))), .val (.int c)]) rfl ?_
  refine Go.aloadN D (pc' := 33) d39_32 rfl rfl rfl ?_
  refine Go.iloadN D (pc' := 34) d39_33 rfl rfl ?_
  refine Go.iinc D (pc' := 37) d39_34 rfl rfl (d := (1 : Int32)) rfl (ls' := #[.val (.ref d), .val (.int ((Int32.ofNat (2 * i)) + (1 : Int32))), .val (.int c)]) rfl ?_
  rw [own_succ]
  refine Go.iloadN D (pc' := 38) d39_37 rfl rfl ?_
  refine Go.getS D (pc' := 41) (hw _ (List.mem_of_getElem? (i := 195) rfl)) d39_38 rfl HI ?_
  refine Go.ishr D (pc' := 42) d39_41 rfl  ?_
  rw [own_shr0]
  refine Go.i2b D (pc' := 43) d39_42 rfl  ?_
  refine Go.bastore D (pc' := 44) (i := (2 * i)) d39_43 rfl V (own_nn (by omega)) ((own_lt (by omega) (by omega)).mpr (by omega)) (own_tn (by omega)) (by omega) gd (own_bb _) ?_
  intro h1 K1 V1
  refine Go.aloadN D (pc' := 45) d39_44 rfl rfl rfl ?_
  refine Go.iloadN D (pc' := 46) d39_45 rfl rfl ?_
  refine Go.iloadN D (pc' := 47) d39_46 rfl rfl ?_
  refine Go.getS D (pc' := 50) (hw _ (List.mem_of_getElem? (i := 196) rfl)) d39_47 rfl LO ?_
  refine Go.ishr D (pc' := 51) d39_50 rfl  ?_
  refine Go.i2b D (pc' := 52) d39_51 rfl  ?_
  refine Go.bastore D (pc' := 53) (i := (2 * i + 1)) d39_52 rfl V1 (own_nn (by omega)) ((own_lt (by omega) (by omega)).mpr (by omega)) (own_tn (by omega)) (by rw [List.length_set]; omega) gd (own_bb _) ?_
  intro h2 K2 V2
  refine Go.vret D rfl d39_53 (by decide) (by decide) ?_
  exact ⟨rfl, rfl, K1.trans K2 (fun x hx => Or.inl hx), V2⟩
abbrev y40 : MethodName := ⟨"java/lang/StringUTF16", "getChar", "([BI)C"⟩
theorem d40_0 : decode jdk_52_method_5_code 0 = .ok (.getstatic 44, 3) := by decide +kernel
theorem d40_3 : decode jdk_52_method_5_code 3 = .ok (.ifCond .ne 25, 3) := by decide +kernel
theorem d40_6 : decode jdk_52_method_5_code 6 = .ok (.iload_n 1, 1) := by decide +kernel
theorem d40_7 : decode jdk_52_method_5_code 7 = .ok (.ifCond .lt 11, 3) := by decide +kernel
theorem d40_10 : decode jdk_52_method_5_code 10 = .ok (.iload_n 1, 1) := by decide +kernel
theorem d40_11 : decode jdk_52_method_5_code 11 = .ok (.aload_n 0, 1) := by decide +kernel
theorem d40_12 : decode jdk_52_method_5_code 12 = .ok (.invokestatic 48, 3) := by decide +kernel
theorem d40_15 : decode jdk_52_method_5_code 15 = .ok (.if_icmp .lt 13, 3) := by decide +kernel
theorem d40_18 : decode jdk_52_method_5_code 18 = .ok (.new 52, 3) := by decide +kernel
theorem d40_21 : decode jdk_52_method_5_code 21 = .ok (.dup, 1) := by decide +kernel
theorem d40_22 : decode jdk_52_method_5_code 22 = .ok (.ldc 54, 2) := by decide +kernel
theorem d40_24 : decode jdk_52_method_5_code 24 = .ok (.invokespecial 56, 3) := by decide +kernel
theorem d40_27 : decode jdk_52_method_5_code 27 = .ok (.athrow, 1) := by decide +kernel
theorem d40_28 : decode jdk_52_method_5_code 28 = .ok (.iload_n 1, 1) := by decide +kernel
theorem d40_29 : decode jdk_52_method_5_code 29 = .ok (.iconst 1, 1) := by decide +kernel
theorem d40_30 : decode jdk_52_method_5_code 30 = .ok (.ishl, 1) := by decide +kernel
theorem d40_31 : decode jdk_52_method_5_code 31 = .ok (.istore_n 1, 1) := by decide +kernel
theorem d40_32 : decode jdk_52_method_5_code 32 = .ok (.aload_n 0, 1) := by decide +kernel
theorem d40_33 : decode jdk_52_method_5_code 33 = .ok (.iload_n 1, 1) := by decide +kernel
theorem d40_34 : decode jdk_52_method_5_code 34 = .ok (.iinc 1 1, 3) := by decide +kernel
theorem d40_37 : decode jdk_52_method_5_code 37 = .ok (.baload, 1) := by decide +kernel
theorem d40_38 : decode jdk_52_method_5_code 38 = .ok (.sipush 255, 3) := by decide +kernel
theorem d40_41 : decode jdk_52_method_5_code 41 = .ok (.iand, 1) := by decide +kernel
theorem d40_42 : decode jdk_52_method_5_code 42 = .ok (.getstatic 59, 3) := by decide +kernel
theorem d40_45 : decode jdk_52_method_5_code 45 = .ok (.ishl, 1) := by decide +kernel
theorem d40_46 : decode jdk_52_method_5_code 46 = .ok (.aload_n 0, 1) := by decide +kernel
theorem d40_47 : decode jdk_52_method_5_code 47 = .ok (.iload_n 1, 1) := by decide +kernel
theorem d40_48 : decode jdk_52_method_5_code 48 = .ok (.baload, 1) := by decide +kernel
theorem d40_49 : decode jdk_52_method_5_code 49 = .ok (.sipush 255, 3) := by decide +kernel
theorem d40_52 : decode jdk_52_method_5_code 52 = .ok (.iand, 1) := by decide +kernel
theorem d40_53 : decode jdk_52_method_5_code 53 = .ok (.getstatic 63, 3) := by decide +kernel
theorem d40_56 : decode jdk_52_method_5_code 56 = .ok (.ishl, 1) := by decide +kernel
theorem d40_57 : decode jdk_52_method_5_code 57 = .ok (.ior, 1) := by decide +kernel
theorem d40_58 : decode jdk_52_method_5_code 58 = .ok (.i2c, 1) := by decide +kernel
theorem d40_59 : decode jdk_52_method_5_code 59 = .ok (.ireturn, 1) := by decide +kernel
theorem pd40 : parseMethodDescriptor "([BI)C" = some ⟨[(.array .byte), .int], (some .char)⟩ := by decide +kernel
theorem pn40 : plainFor y40 = true := by first | exact plainFor_of_name (by first | (simp [plainName, overriddenIn]; done) | decide +kernel) | decide +kernel | rfl
set_option maxRecDepth 65536 in
set_option maxHeartbeats 40000000 in
theorem con_gch (l : Launch) (Z : State) (a0 : Array Value) (hw : ∀ d ∈ tables_1, d.before a0 Z = true) (h0 : Heap) (n0 : Nat) (σ : Sg) (b : Addr) (kb : ClassId) (cs : List Int32) (V : Arv Z h0 b kb .byte (Int32.ofNat (2 * cs.length)) ((ubl cs).map Value.int) (.int 0)) (h4 : cs.length ≤ 4) (i : Nat) (hi : i < cs.length) (hc : C16 cs[i]) (AD : Sta Z Z.heap "java/lang/StringUTF16" "$assertionsDisabled" "Z" (.int 1)) (HI : Sta Z Z.heap "java/lang/StringUTF16" "HI_BYTE_SHIFT" "I" (.int 0)) (LO : Sta Z Z.heap "java/lang/StringUTF16" "LO_BYTE_SHIFT" "I" (.int 8)) :
    Con l Z y40 jdk_52_method_5_code 2 ((some .char)) ({ frames := 0, cells := 0, slots := 0, locals := 0 } : Room) [] #[(.ref b), (.int (Int32.ofNat i))] σ h0 n0 (fun v h τ => h0 = h ∧ σ = τ ∧ v = some (.int cs[i])) := by
  refine Con.of_go pn40 (ls := #[.val (.ref b), .val (.int (Int32.ofNat i))]) (fun m => by first | (simp [entryFrame, mkF, argsToLocals, Value.category]; done) | rfl) ?_
  intro κ D
  refine Go.getS D (pc' := 3) (hw _ (List.mem_of_getElem? (i := 194) rfl)) d40_0 rfl AD ?_
  refine Go.ifc D (pc' := 28) (pc2 := 6) d40_3 (by decide) (by decide) rfl (fun _ => ?_) (fun (hc : (1 : Int32) = 0) => absurd hc (by decide))
  refine Go.iloadN D (pc' := 29) d40_28 rfl rfl ?_
  refine Go.iconst D (pc' := 30) d40_29 rfl (v := (1 : Int32)) rfl ?_
  refine Go.ishl D (pc' := 31) d40_30 rfl  ?_
  rw [own_shl1 (by omega)]
  refine Go.istoreN D (pc' := 32) d40_31 rfl (ls' := #[.val (.ref b), .val (.int (Int32.ofNat (2 * i)))]) rfl ?_
  refine Go.aloadN D (pc' := 33) d40_32 rfl rfl rfl ?_
  refine Go.iloadN D (pc' := 34) d40_33 rfl rfl ?_
  refine Go.iinc D (pc' := 37) d40_34 rfl rfl (d := (1 : Int32)) rfl (ls' := #[.val (.ref b), .val (.int ((Int32.ofNat (2 * i)) + (1 : Int32)))]) rfl ?_
  rw [own_succ]
  refine Go.baload D (pc' := 38) d40_37 rfl V (own_nn (by omega)) ((own_lt (by omega) (by omega)).mpr (by omega)) (v := .int (cs[i].toInt8.toInt32)) (by rw [own_tn (by omega)]; exact ub_lo hi _) ?_
  refine Go.sipush D (pc' := 41) d40_38 rfl (v := (255 : Int32)) rfl ?_
  refine Go.iand D (pc' := 42) d40_41 rfl  ?_
  refine Go.getS D (pc' := 45) (hw _ (List.mem_of_getElem? (i := 195) rfl)) d40_42 rfl HI ?_
  refine Go.ishl D (pc' := 46) d40_45 rfl  ?_
  refine Go.aloadN D (pc' := 47) d40_46 rfl rfl rfl ?_
  refine Go.iloadN D (pc' := 48) d40_47 rfl rfl ?_
  refine Go.baload D (pc' := 49) d40_48 rfl V (own_nn (by omega)) ((own_lt (by omega) (by omega)).mpr (by omega)) (v := .int ((cs[i] >>> ((8 : Int32) &&& 31)).toInt8.toInt32)) (by rw [own_tn (by omega)]; exact ub_hi hi _) ?_
  refine Go.sipush D (pc' := 52) d40_49 rfl (v := (255 : Int32)) rfl ?_
  refine Go.iand D (pc' := 53) d40_52 rfl  ?_
  refine Go.getS D (pc' := 56) (hw _ (List.mem_of_getElem? (i := 196) rfl)) d40_53 rfl LO ?_
  refine Go.ishl D (pc' := 57) d40_56 rfl  ?_
  refine Go.ior D (pc' := 58) d40_57 rfl  ?_
  rw [gch hc]
  refine Go.i2c D (pc' := 59) d40_58 rfl  ?_
  rw [char16_nar hc]
  refine Go.cret D rfl (congrArg Value.int (char16_nar hc)) d40_59 (by decide) (by decide) ?_
  exact ⟨rfl, rfl, rfl⟩
abbrev y36 : MethodName := ⟨"java/lang/StringUTF16", "toBytes", "([CII)[B"⟩
theorem d36_0 : decode jdk_52_method_14_code 0 = .ok (.iload_n 2, 1) := by decide +kernel
theorem d36_1 : decode jdk_52_method_14_code 1 = .ok (.invokestatic 107, 3) := by decide +kernel
theorem d36_4 : decode jdk_52_method_14_code 4 = .ok (.astore_n 3, 1) := by decide +kernel
theorem d36_5 : decode jdk_52_method_14_code 5 = .ok (.iconst 0, 1) := by decide +kernel
theorem d36_6 : decode jdk_52_method_14_code 6 = .ok (.istore 4, 2) := by decide +kernel
theorem d36_8 : decode jdk_52_method_14_code 8 = .ok (.iload 4, 2) := by decide +kernel
theorem d36_10 : decode jdk_52_method_14_code 10 = .ok (.iload_n 2, 1) := by decide +kernel
theorem d36_11 : decode jdk_52_method_14_code 11 = .ok (.if_icmp .ge 21, 3) := by decide +kernel
theorem d36_14 : decode jdk_52_method_14_code 14 = .ok (.aload_n 3, 1) := by decide +kernel
theorem d36_15 : decode jdk_52_method_14_code 15 = .ok (.iload 4, 2) := by decide +kernel
theorem d36_17 : decode jdk_52_method_14_code 17 = .ok (.aload_n 0, 1) := by decide +kernel
theorem d36_18 : decode jdk_52_method_14_code 18 = .ok (.iload_n 1, 1) := by decide +kernel
theorem d36_19 : decode jdk_52_method_14_code 19 = .ok (.caload, 1) := by decide +kernel
theorem d36_20 : decode jdk_52_method_14_code 20 = .ok (.invokestatic 111, 3) := by decide +kernel
theorem d36_23 : decode jdk_52_method_14_code 23 = .ok (.iinc 1 1, 3) := by decide +kernel
theorem d36_26 : decode jdk_52_method_14_code 26 = .ok (.iinc 4 1, 3) := by decide +kernel
theorem d36_29 : decode jdk_52_method_14_code 29 = .ok (.goto (-21), 3) := by decide +kernel
theorem d36_32 : decode jdk_52_method_14_code 32 = .ok (.aload_n 3, 1) := by decide +kernel
theorem d36_33 : decode jdk_52_method_14_code 33 = .ok (.areturn, 1) := by decide +kernel
theorem pd36 : parseMethodDescriptor "([CII)[B" = some ⟨[(.array .char), .int, .int], (some (.array .byte))⟩ := by decide +kernel
theorem pn36 : plainFor y36 = true := by first | exact plainFor_of_name (by first | (simp [plainName, overriddenIn]; done) | decide +kernel) | decide +kernel | rfl
set_option maxRecDepth 65536 in
set_option maxHeartbeats 40000000 in
theorem con_toB (l : Launch) (Z : State) (a0 : Array Value) (hw : ∀ d ∈ tables_1, d.before a0 Z = true) (h0 : Heap) (n0 : Nat) (Z0 : n0 ≤ h0.size) (σ : Sg) (a : Addr) (ka : ClassId) (cs : List Int32) (A : Arv Z h0 a ka .char (Int32.ofNat cs.length) (cs.map Value.int) (.int 0)) (h4 : cs.length ≤ 4) (AD : Sta Z Z.heap "java/lang/StringUTF16" "$assertionsDisabled" "Z" (.int 1)) (HI : Sta Z Z.heap "java/lang/StringUTF16" "HI_BYTE_SHIFT" "I" (.int 0)) (LO : Sta Z Z.heap "java/lang/StringUTF16" "LO_BYTE_SHIFT" "I" (.int 8)) :
    Con l Z y36 jdk_52_method_14_code 5 ((some (.array .byte))) ({ frames := 2, cells := 1, slots := 8, locals := 40 } : Room) [] #[(.ref a), (.int (0 : Int32)), (.int (Int32.ofNat cs.length))] σ h0 n0 (fun v h τ => σ = τ ∧ ∃ d kd, v = some (.ref d) ∧ h0.size ≤ d ∧ Ext h0 h ∧ Arv Z h d kd .byte (Int32.ofNat (2 * cs.length)) ((ubl cs).map Value.int) (.int 0)) := by
  refine Con.of_go pn36 (ls := #[.val (.ref a), .val (.int (0 : Int32)), .val (.int (Int32.ofNat cs.length)), .unset, .unset]) (fun m => by first | (simp [entryFrame, mkF, argsToLocals, Value.category]; done) | rfl) ?_
  intro κ D
  refine Go.iloadN D (pc' := 1) d36_0 rfl rfl ?_
  refine Go.callS D (argsL := [(.int (Int32.ofNat cs.length))]) (rest := []) (pc' := 4) (ce' := 1) (sl' := 8) (con_nbf l Z a0 hw h0 n0 σ cs.length h4) (hw _ (List.mem_of_getElem? (i := 184) rfl)) (hw _ (List.mem_of_getElem? (i := 185) rfl)) (hw _ (List.mem_of_getElem? (i := 28) rfl)) (hw _ (List.mem_of_getElem? (i := 186) rfl)) (by decide) d36_1 rfl pd37 rfl rfl rfl (by decide) (W := 0) rfl (by decide) (by decide) (by decide) (by decide) (by decide) ?_
  intro v1 h1 σ1 q1
  obtain ⟨rfl, d, kd, rfl, gd, E1, D1⟩ := q1
  have gd' : n0 ≤ d := Nat.le_trans Z0 gd
  have nad : a ≠ d := own_ne (by have := own_ltn A.lt; omega)
  show Go κ σ h1 1 8 4 #[.val (.ref a), .val (.int (0 : Int32)), .val (.int (Int32.ofNat cs.length)), .unset, .unset] [(.ref d)]
  refine Go.astoreN D (pc' := 5) d36_4 rfl rfl (ls' := #[.val (.ref a), .val (.int (0 : Int32)), .val (.int (Int32.ofNat cs.length)), .val (.ref d), .unset]) rfl ?_
  have loop : ∀ (N i : Nat) (h : Heap), cs.length - i = N → i ≤ cs.length → Keep h1 h [d] → Arv Z h d kd .byte (Int32.ofNat (2 * cs.length)) ((ubl (cs.take i)).map Value.int ++ List.replicate (2 * cs.length - 2 * i) (.int 0)) (.int 0) → Go κ σ h 1 8 8 #[.val (.ref a), .val (.int (Int32.ofNat i)), .val (.int (Int32.ofNat cs.length)), .val (.ref d), .val (.int (Int32.ofNat i))] [] := by
    intro N
    induction N using Nat.strongRecOn with
    | _ N ih =>
      intro i h hN hi0 K V
      refine Go.iload D (pc' := 10) d36_8 rfl rfl ?_
      refine Go.iloadN D (pc' := 11) d36_10 rfl rfl ?_
      refine Go.icmp D (pc' := 32) (pc2 := 14) d36_11 (by decide) (by decide) rfl ?_ ?_
      · intro (hc11 : ¬ (Int32.ofNat i) < (Int32.ofNat cs.length))
        refine Go.aloadN D (pc' := 33) d36_32 rfl rfl rfl ?_
        refine Go.aret D rfl rfl rfl d36_33 (by decide) (by decide) ?_
        have hi : i = cs.length := by
          have : ¬ i < cs.length := fun q => hc11 ((own_lt (by omega) (by omega)).mpr q)
          omega
        subst hi
        rw [List.take_of_length_le (Nat.le_refl _), Nat.sub_self, List.replicate_zero, List.append_nil] at V
        exact ⟨rfl, d, kd, rfl, gd, E1.keepN K (by omega), V⟩
      · intro (hc11 : (Int32.ofNat i) < (Int32.ofNat cs.length))
        have hi : i < cs.length := (own_lt (by omega) (by omega)).mp hc11
        refine Go.aloadN D (pc' := 15) d36_14 rfl rfl rfl ?_
        refine Go.iload D (pc' := 17) d36_15 rfl rfl ?_
        refine Go.aloadN D (pc' := 18) d36_17 rfl rfl rfl ?_
        refine Go.iloadN D (pc' := 19) d36_18 rfl rfl ?_
        refine Go.caload D (pc' := 20) d36_19 rfl ((A.ext E1).keep K (nin1 nad)) (own_nn (by omega)) ((own_lt (by omega) (by omega)).mpr hi) (v := .int cs[i]) (by rw [own_tn (by omega)]; exact cs_at hi _) ?_
        refine Go.callS D (argsL := [(.ref d), (.int (Int32.ofNat i)), (.int cs[i])]) (rest := []) (pc' := 23) (ce' := 1) (sl' := 8) (con_putc l Z a0 hw h n0 σ d kd (2 * cs.length) i cs[i] _ V (by omega) (by omega) (by rw [List.length_append, List.length_map, ubl_len, List.length_take, List.length_replicate]; omega) gd' AD HI LO) (hw _ (List.mem_of_getElem? (i := 191) rfl)) (hw _ (List.mem_of_getElem? (i := 192) rfl)) (hw _ (List.mem_of_getElem? (i := 28) rfl)) (hw _ (List.mem_of_getElem? (i := 193) rfl)) (by decide) d36_20 rfl pd39 rfl rfl rfl (by decide) (W := 0) rfl (by decide) (by decide) (by decide) (by decide) (by decide) ?_
        intro v20 h20 σ20 q20
        obtain ⟨rfl, rfl, K20, V20⟩ := q20
        show Go κ σ h20 1 8 23 #[.val (.ref a), .val (.int (Int32.ofNat i)), .val (.int (Int32.ofNat cs.length)), .val (.ref d), .val (.int (Int32.ofNat i))] []
        refine Go.iinc D (pc' := 26) d36_23 rfl rfl (d := (1 : Int32)) rfl (ls' := #[.val (.ref a), .val (.int ((Int32.ofNat i) + (1 : Int32))), .val (.int (Int32.ofNat cs.length)), .val (.ref d), .val (.int (Int32.ofNat i))]) rfl ?_
        refine Go.iinc D (pc' := 29) d36_26 rfl rfl (d := (1 : Int32)) rfl (ls' := #[.val (.ref a), .val (.int ((Int32.ofNat i) + (1 : Int32))), .val (.int (Int32.ofNat cs.length)), .val (.ref d), .val (.int ((Int32.ofNat i) + (1 : Int32)))]) rfl ?_
        refine Go.goto D (pc' := 8) d36_29 (by decide) (by decide) ?_
        rw [own_succ]
        rw [ub_set hi] at V20
        exact ih (cs.length - (i + 1)) (by omega) (i + 1) h20 rfl (by omega) (K.trans K20 (fun x hx => Or.inl hx)) V20
  refine Go.iconst D (pc' := 6) d36_5 rfl (v := (0 : Int32)) rfl ?_
  refine Go.istore D (pc' := 8) d36_6 rfl (ls' := #[.val (.ref a), .val (.int (0 : Int32)), .val (.int (Int32.ofNat cs.length)), .val (.ref d), .val (.int (0 : Int32))]) rfl ?_
  exact loop (cs.length - 0) 0 h1 rfl (by omega) (Keep.refl _ _) (by simpa [ubl] using D1)
set_option maxRecDepth 65536 in
set_option maxHeartbeats 40000000 in
theorem con_cmp2W (l : Launch) (Z : State) (a0 : Array Value) (hw : ∀ d ∈ tables_1, d.before a0 Z = true) (h0 : Heap) (n0 : Nat) (σ : Sg) (a : Addr) (ka : ClassId) (cs : List Int32) (A : Arv Z h0 a ka .char (Int32.ofNat cs.length) (cs.map Value.int) (.int 0)) (h16 : ∀ c ∈ cs, C16 c) (h4 : cs.length ≤ 4) (hbig : ∃ c ∈ cs, ¬ c < 256) (b : Addr) (kb : ClassId) (vs0 : List Value) (B0 : Arv Z h0 b kb .byte (Int32.ofNat cs.length) vs0 (.int 0)) (hv0 : vs0.length = cs.length) (nab : a ≠ b) (gb : n0 ≤ b) :
    Con l Z y8 jdk_52_method_21_code 7 ((some .int)) ({ frames := 0, cells := 0, slots := 0, locals := 0 } : Room) [] #[(.ref a), (.int (0 : Int32)), (.ref b), (.int (0 : Int32)), (.int (Int32.ofNat cs.length))] σ h0 n0 (fun v h τ => σ = τ ∧ ∃ (k : Nat) (hk : k < cs.length), v = some (.int (Int32.ofNat k)) ∧ ¬ cs[k] < 256 ∧ Keep h0 h [b]) := by
  refine Con.of_go pn8 (ls := #[.val (.ref a), .val (.int (0 : Int32)), .val (.ref b), .val (.int (0 : Int32)), .val (.int (Int32.ofNat cs.length)), .unset, .unset]) (fun m => by first | (simp [entryFrame, mkF, argsToLocals, Value.category]; done) | rfl) ?_
  intro κ D
  have loop : ∀ (N i : Nat) (h : Heap) (vs : List Value) (s6 : Slot), cs.length - i = N → i ≤ cs.length → Keep h0 h [b] → Arv Z h b kb .byte (Int32.ofNat cs.length) vs (.int 0) → vs.length = cs.length → (∀ j, j < i → ∀ hj : j < cs.length, cs[j] < 256) → (s6 = .unset ∨ ∃ w, s6 = .val w ∧ w.category = 1) → Go κ σ h 0 0 3 #[.val (.ref a), .val (.int (Int32.ofNat i)), .val (.ref b), .val (.int (Int32.ofNat i)), .val (.int (Int32.ofNat cs.length)), .val (.int (Int32.ofNat i)), s6] [] := by
    intro N
    induction N using Nat.strongRecOn with
    | _ N ih =>
      intro i h vs s6 hN hi0 K B hvl hsm hs6
      refine Go.iload D (pc' := 5) d8_3 rfl rfl ?_
      refine Go.iload D (pc' := 7) d8_5 rfl rfl ?_
      refine Go.icmp D (pc' := 44) (pc2 := 10) d8_7 (by decide) (by decide) rfl ?_ ?_
      · intro (hc7 : ¬ (Int32.ofNat i) < (Int32.ofNat cs.length))
        refine Go.iload D (pc' := 46) d8_44 rfl rfl ?_
        refine Go.iret D rfl d8_46 (by decide) (by decide) ?_
        exfalso
        obtain ⟨c, hc, hn⟩ := hbig
        obtain ⟨j, hj, rfl⟩ := List.getElem_of_mem hc
        exact hn (hsm j (by
          have : ¬ i < cs.length := fun q => hc7 ((own_lt (by omega) (by omega)).mpr q)
          omega) hj)
      · intro (hc7 : (Int32.ofNat i) < (Int32.ofNat cs.length))
        refine Go.aloadN D (pc' := 11) d8_10 rfl rfl rfl ?_
        refine Go.iloadN D (pc' := 12) d8_11 rfl rfl ?_
        have hi : i < cs.length := (own_lt (by omega) (by omega)).mp hc7
        refine Go.caload D (pc' := 13) d8_12 rfl (A.keep K (nin1 nab)) (own_nn (by omega)) ((own_lt (by omega) (by omega)).mpr hi) (v := .int cs[i]) (by rw [own_tn (by omega)]; exact cs_at hi _) ?_
        refine Go.istoreU D (pc' := 15) d8_13 rfl rfl hs6 (ls' := #[.val (.ref a), .val (.int (Int32.ofNat i)), .val (.ref b), .val (.int (Int32.ofNat i)), .val (.int (Int32.ofNat cs.length)), .val (.int (Int32.ofNat i)), .val (.int cs[i])]) rfl ?_
        refine Go.iload D (pc' := 17) d8_15 rfl rfl ?_
        refine Go.sipush D (pc' := 20) d8_17 rfl (v := (255 : Int32)) rfl ?_
        refine Go.icmp D (pc' := 26) (pc2 := 23) d8_20 (by decide) (by decide) rfl ?_ ?_
        · intro (hc20 : ¬ (255 : Int32) < cs[i])
          refine Go.aloadN D (pc' := 27) d8_26 rfl rfl rfl ?_
          refine Go.iloadN D (pc' := 28) d8_27 rfl rfl ?_
          refine Go.iload D (pc' := 30) d8_28 rfl rfl ?_
          refine Go.i2b D (pc' := 31) d8_30 rfl  ?_
          refine Go.bastore D (pc' := 32) (i := i) d8_31 rfl B (own_nn (by omega)) ((own_lt (by omega) (by omega)).mpr hi) (own_tn (by omega)) (by omega) gb (own_bb _) ?_
          intro h2 K2 B2
          refine Go.iinc D (pc' := 35) d8_32 rfl rfl (d := (1 : Int32)) rfl (ls' := #[.val (.ref a), .val (.int ((Int32.ofNat i) + (1 : Int32))), .val (.ref b), .val (.int (Int32.ofNat i)), .val (.int (Int32.ofNat cs.length)), .val (.int (Int32.ofNat i)), .val (.int cs[i])]) rfl ?_
          refine Go.iinc D (pc' := 38) d8_35 rfl rfl (d := (1 : Int32)) rfl (ls' := #[.val (.ref a), .val (.int ((Int32.ofNat i) + (1 : Int32))), .val (.ref b), .val (.int ((Int32.ofNat i) + (1 : Int32))), .val (.int (Int32.ofNat cs.length)), .val (.int (Int32.ofNat i)), .val (.int cs[i])]) rfl ?_
          refine Go.iinc D (pc' := 41) d8_38 rfl rfl (d := (1 : Int32)) rfl (ls' := #[.val (.ref a), .val (.int ((Int32.ofNat i) + (1 : Int32))), .val (.ref b), .val (.int ((Int32.ofNat i) + (1 : Int32))), .val (.int (Int32.ofNat cs.length)), .val (.int ((Int32.ofNat i) + (1 : Int32))), .val (.int cs[i])]) rfl ?_
          refine Go.goto D (pc' := 3) d8_41 (by decide) (by decide) ?_
          rw [own_succ]
          exact ih (cs.length - (i + 1)) (by omega) (i + 1) h2 _ _ rfl (by omega) (K.trans K2 (fun x hx => Or.inl hx)) B2 (by rw [List.length_set]; exact hvl) (fun j hj hj' => (Nat.lt_or_eq_of_le (Nat.le_of_lt_succ hj)).elim (fun z => hsm j z hj') (fun z => by subst z; exact small_of hc20)) (Or.inr ⟨_, rfl, rfl⟩)
        · intro (hc20 : (255 : Int32) < cs[i])
          refine Go.iload D (pc' := 25) d8_23 rfl rfl ?_
          refine Go.iret D rfl d8_25 (by decide) (by decide) ?_
          exact ⟨rfl, i, hi, rfl, fun q => absurd hc20 (lat_le ⟨(h16 _ (List.getElem_mem hi)).1, q⟩), K⟩
  refine Go.iconst D (pc' := 1) d8_0 rfl (v := (0 : Int32)) rfl ?_
  refine Go.istore D (pc' := 3) d8_1 rfl (ls' := #[.val (.ref a), .val (.int (0 : Int32)), .val (.ref b), .val (.int (0 : Int32)), .val (.int (Int32.ofNat cs.length)), .val (.int (0 : Int32)), .unset]) rfl ?_
  rw [show (0 : Int32) = Int32.ofNat 0 from rfl]
  exact loop (cs.length - 0) 0 h0 _ _ rfl (by omega) (Keep.refl _ _) B0 hv0 (fun j hj => absurd hj (Nat.not_lt_zero j)) (Or.inl rfl)
theorem d7_20 : decode jdk_52_method_16_code 20 = .ok (.aload_n 0, 1) := by decide +kernel
theorem d7_21 : decode jdk_52_method_16_code 21 = .ok (.iload_n 1, 1) := by decide +kernel
theorem d7_22 : decode jdk_52_method_16_code 22 = .ok (.iload_n 2, 1) := by decide +kernel
theorem d7_23 : decode jdk_52_method_16_code 23 = .ok (.invokestatic 119, 3) := by decide +kernel
theorem d7_26 : decode jdk_52_method_16_code 26 = .ok (.astore 5, 2) := by decide +kernel
theorem d7_28 : decode jdk_52_method_16_code 28 = .ok (.aload 5, 2) := by decide +kernel
theorem d7_30 : decode jdk_52_method_16_code 30 = .ok (.iload 4, 2) := by decide +kernel
theorem d7_32 : decode jdk_52_method_16_code 32 = .ok (.invokestatic 71, 3) := by decide +kernel
theorem d7_35 : decode jdk_52_method_16_code 35 = .ok (.sipush 255, 3) := by decide +kernel
theorem d7_38 : decode jdk_52_method_16_code 38 = .ok (.if_icmp .gt 16, 3) := by decide +kernel
theorem d7_54 : decode jdk_52_method_16_code 54 = .ok (.aload 5, 2) := by decide +kernel
theorem d7_56 : decode jdk_52_method_16_code 56 = .ok (.areturn, 1) := by decide +kernel
set_option maxRecDepth 65536 in
set_option maxHeartbeats 40000000 in
theorem con_cmp1W (l : Launch) (Z : State) (a0 : Array Value) (hw : ∀ d ∈ tables_1, d.before a0 Z = true) (h0 : Heap) (n0 : Nat) (σ : Sg) (Z0 : n0 ≤ h0.size) (a : Addr) (ka : ClassId) (cs : List Int32) (A : Arv Z h0 a ka .char (Int32.ofNat cs.length) (cs.map Value.int) (.int 0)) (h16 : ∀ c ∈ cs, C16 c) (h4 : cs.length ≤ 4) (hbig : ∃ c ∈ cs, ¬ c < 256) (AD : Sta Z Z.heap "java/lang/StringUTF16" "$assertionsDisabled" "Z" (.int 1)) (HI : Sta Z Z.heap "java/lang/StringUTF16" "HI_BYTE_SHIFT" "I" (.int 0)) (LO : Sta Z Z.heap "java/lang/StringUTF16" "LO_BYTE_SHIFT" "I" (.int 8)) :
    Con l Z y7 jdk_52_method_16_code 6 ((some (.array .byte))) ({ frames := 3, cells := 2, slots := 16, locals := 60 } : Room) [] #[(.ref a), (.int (0 : Int32)), (.int (Int32.ofNat cs.length))] σ h0 n0 (fun v h τ => σ = τ ∧ ∃ d kd, v = some (.ref d) ∧ h0.size ≤ d ∧ Ext h0 h ∧ Arv Z h d kd .byte (Int32.ofNat (2 * cs.length)) ((ubl cs).map Value.int) (.int 0)) := by
  refine Con.of_go pn7 (ls := #[.val (.ref a), .val (.int (0 : Int32)), .val (.int (Int32.ofNat cs.length)), .unset, .unset, .unset]) (fun m => by first | (simp [entryFrame, mkF, argsToLocals, Value.category]; done) | rfl) ?_
  intro κ D
  have qa := own_ltn A.lt
  refine Go.iloadN D (pc' := 1) d7_0 rfl rfl ?_
  refine Go.newP D (pc' := 3) (aty := .byte) (cap := 8) (ce' := 1) (sl' := 8) (hw _ (List.mem_of_getElem? (i := 30) rfl)) d7_1 rfl (own_nn (by omega)) (by rw [own_tn (by omega)]; omega) (by decide) rfl rfl (by decide) (by decide) ?_
  intro h1 b kb gb E1 B1
  refine Go.astoreN D (pc' := 4) d7_3 rfl rfl (ls' := #[.val (.ref a), .val (.int (0 : Int32)), .val (.int (Int32.ofNat cs.length)), .val (.ref b), .unset, .unset]) rfl ?_
  refine Go.aloadN D (pc' := 5) d7_4 rfl rfl rfl ?_
  refine Go.iloadN D (pc' := 6) d7_5 rfl rfl ?_
  refine Go.aloadN D (pc' := 7) d7_6 rfl rfl rfl ?_
  refine Go.iconst D (pc' := 8) d7_7 rfl (v := (0 : Int32)) rfl ?_
  refine Go.iloadN D (pc' := 9) d7_8 rfl rfl ?_
  refine Go.callS D (argsL := [(.ref a), (.int (0 : Int32)), (.ref b), (.int (0 : Int32)), (.int (Int32.ofNat cs.length))]) (rest := []) (pc' := 12) (ce' := 1) (sl' := 8) (con_cmp2W l Z a0 hw h1 n0 σ a ka cs (A.ext E1) h16 h4 hbig b kb (List.replicate cs.length (.int 0)) (B1.pad (vs' := List.replicate cs.length (.int 0)) (fun i => pad_rep [] (.int 0) cs.length i)) (by simp) (own_ne (by omega)) (by omega)) (hw _ (List.mem_of_getElem? (i := 31) rfl)) (hw _ (List.mem_of_getElem? (i := 32) rfl)) (hw _ (List.mem_of_getElem? (i := 28) rfl)) (hw _ (List.mem_of_getElem? (i := 33) rfl)) (by decide) d7_9 rfl pd8 rfl rfl rfl (by decide) (W := 0) rfl (by decide) (by decide) (by decide) (by decide) (by decide) ?_
  intro v9 h2 σ9 q9
  obtain ⟨rfl, k, hk, rfl, hkb, K2⟩ := q9
  have e2 := E1.keepN K2 (by omega)
  have Z2 := Nat.le_trans Z0 e2.1
  show Go κ σ h2 1 8 12 #[.val (.ref a), .val (.int (0 : Int32)), .val (.int (Int32.ofNat cs.length)), .val (.ref b), .unset, .unset] [(.int (Int32.ofNat k))]
  refine Go.istore D (pc' := 14) d7_12 rfl (ls' := #[.val (.ref a), .val (.int (0 : Int32)), .val (.int (Int32.ofNat cs.length)), .val (.ref b), .val (.int (Int32.ofNat k)), .unset]) rfl ?_
  refine Go.iload D (pc' := 16) d7_14 rfl rfl ?_
  refine Go.iloadN D (pc' := 17) d7_16 rfl rfl ?_
  refine Go.icmp D (pc' := 57) (pc2 := 20) d7_17 (by decide) (by decide) rfl ?_ ?_
  · intro (hc17 : (Int32.ofNat k) = (Int32.ofNat cs.length))
    exact absurd (own_inj (by omega) (by omega) hc17) (by omega)
  · intro (hc17 : ¬ (Int32.ofNat k) = (Int32.ofNat cs.length))
    refine Go.aloadN D (pc' := 21) d7_20 rfl rfl rfl ?_
    refine Go.iloadN D (pc' := 22) d7_21 rfl rfl ?_
    refine Go.iloadN D (pc' := 23) d7_22 rfl rfl ?_
    refine Go.callS D (argsL := [(.ref a), (.int (0 : Int32)), (.int (Int32.ofNat cs.length))]) (rest := []) (pc' := 26) (ce' := 2) (sl' := 16) (con_toB l Z a0 hw h2 n0 Z2 σ a ka cs (A.ext e2) h4 AD HI LO) (hw _ (List.mem_of_getElem? (i := 181) rfl)) (hw _ (List.mem_of_getElem? (i := 182) rfl)) (hw _ (List.mem_of_getElem? (i := 28) rfl)) (hw _ (List.mem_of_getElem? (i := 183) rfl)) (by decide) d7_23 rfl pd36 rfl rfl rfl (by decide) (W := 0) rfl (by decide) (by decide) (by decide) (by decide) (by decide) ?_
    intro v23 h3 σ23 q23
    obtain ⟨rfl, d, kd, rfl, gd, E3, D3⟩ := q23
    have ge2 := e2.1
    show Go κ σ h3 2 16 26 #[.val (.ref a), .val (.int (0 : Int32)), .val (.int (Int32.ofNat cs.length)), .val (.ref b), .val (.int (Int32.ofNat k)), .unset] [(.ref d)]
    refine Go.astore D (pc' := 28) d7_26 rfl rfl (ls' := #[.val (.ref a), .val (.int (0 : Int32)), .val (.int (Int32.ofNat cs.length)), .val (.ref b), .val (.int (Int32.ofNat k)), .val (.ref d)]) rfl ?_
    refine Go.aload D (pc' := 30) d7_28 rfl rfl rfl ?_
    refine Go.iload D (pc' := 32) d7_30 rfl rfl ?_
    refine Go.callS D (argsL := [(.ref d), (.int (Int32.ofNat k))]) (rest := []) (pc' := 35) (ce' := 2) (sl' := 16) (con_gch l Z a0 hw h3 n0 σ d kd cs D3 h4 k hk (h16 _ (List.getElem_mem hk)) AD HI LO) (hw _ (List.mem_of_getElem? (i := 197) rfl)) (hw _ (List.mem_of_getElem? (i := 198) rfl)) (hw _ (List.mem_of_getElem? (i := 28) rfl)) (hw _ (List.mem_of_getElem? (i := 199) rfl)) (by decide) d7_32 rfl pd40 rfl rfl rfl (by decide) (W := 0) rfl (by decide) (by decide) (by decide) (by decide) (by decide) ?_
    intro v32 h32 σ32 q32
    obtain ⟨rfl, rfl, rfl⟩ := q32
    show Go κ σ h3 2 16 35 #[.val (.ref a), .val (.int (0 : Int32)), .val (.int (Int32.ofNat cs.length)), .val (.ref b), .val (.int (Int32.ofNat k)), .val (.ref d)] [(.int cs[k])]
    refine Go.sipush D (pc' := 38) d7_35 rfl (v := (255 : Int32)) rfl ?_
    refine Go.icmp D (pc' := 54) (pc2 := 41) d7_38 (by decide) (by decide) rfl ?_ ?_
    · intro (hc38 : (255 : Int32) < cs[k])
      refine Go.aload D (pc' := 56) d7_54 rfl rfl rfl ?_
      refine Go.aret D rfl rfl rfl d7_56 (by decide) (by decide) ?_
      exact ⟨rfl, d, kd, rfl, Nat.le_trans ge2 gd, e2.tr E3, D3⟩
    · intro (hc38 : ¬ (255 : Int32) < cs[k])
      exact absurd (big_gt hkb) hc38
set_option maxRecDepth 65536 in
set_option maxHeartbeats 40000000 in
theorem con_coderW (l : Launch) (Z : State) (a0 : Array Value) (hw : ∀ d ∈ tables_1, d.before a0 Z = true) (h0 : Heap) (n0 : Nat) (σ : Sg) (b : Addr) (kb : ClassId) (cs : List Int32) (V : Arv Z h0 b kb .byte (Int32.ofNat (2 * cs.length)) ((ubl cs).map Value.int) (.int 0)) (h4 : cs.length ≤ 4) (hpos : 0 < cs.length) :
    Con l Z y9 jdk_52_method_15_code 2 ((some .byte)) ({ frames := 0, cells := 0, slots := 0, locals := 0 } : Room) [] #[(.ref b), (.int (Int32.ofNat cs.length))] σ h0 n0 (fun v h τ => h0 = h ∧ σ = τ ∧ v = some (.int 1)) := by
  refine Con.of_go pn9 (ls := #[.val (.ref b), .val (.int (Int32.ofNat cs.length))]) (fun m => by first | (simp [entryFrame, mkF, argsToLocals, Value.category]; done) | rfl) ?_
  intro κ D
  refine Go.iloadN D (pc' := 1) d9_0 rfl rfl ?_
  refine Go.aloadN D (pc' := 2) d9_1 rfl rfl rfl ?_
  refine Go.alen D (pc' := 3) d9_2 rfl V ?_
  refine Go.isub D (pc' := 4) d9_3 rfl  ?_
  refine Go.bipush D (pc' := 6) d9_4 rfl (v := (31 : Int32)) rfl ?_
  refine Go.iushr D (pc' := 7) d9_6 rfl  ?_
  refine Go.i2b D (pc' := 8) d9_7 rfl  ?_
  rw [cod_tab ⟨cs.length, by omega⟩ hpos]
  refine Go.bret D rfl rfl d9_8 (by decide) (by decide) ?_
  exact ⟨rfl, rfl, rfl⟩
set_option maxRecDepth 65536 in
set_option maxHeartbeats 40000000 in
theorem con_str4W (l : Launch) (Z : State) (a0 : Array Value) (hw : ∀ d ∈ tables_1, d.before a0 Z = true) (h0 : Heap) (n0 : Nat) (σ : Sg) (Z0 : n0 ≤ h0.size) (s : Addr) (a : Addr) (ka : ClassId) (cs : List Int32) (A : Arv Z h0 a ka .char (Int32.ofNat cs.length) (cs.map Value.int) (.int 0)) (h16 : ∀ c ∈ cs, C16 c) (h4 : cs.length ≤ 4) (hbig : ∃ c ∈ cs, ¬ c < 256) (cz : Int32) (hcz : ¬ cz = 0) (O2 : Sta Z Z.heap "java/lang/String" "COMPACT_STRINGS" "Z" (.int cz)) (g0 : n0 ≤ s) (E : Exa Z h0 s "java/lang/String") (Fv : Fld Z h0 s "java/lang/String" "value" "[B" .null) (Fc : Fld Z h0 s "java/lang/String" "coder" "B" (.int 0)) (AD : Sta Z Z.heap "java/lang/StringUTF16" "$assertionsDisabled" "Z" (.int 1)) (HI : Sta Z Z.heap "java/lang/StringUTF16" "HI_BYTE_SHIFT" "I" (.int 0)) (LO : Sta Z Z.heap "java/lang/StringUTF16" "LO_BYTE_SHIFT" "I" (.int 8)) :
    Con l Z y5 jdk_42_method_149_code 6 none ({ frames := 4, cells := 2, slots := 16, locals := 80 } : Room) [] #[(.ref s), (.ref a), (.int (0 : Int32)), (.int (Int32.ofNat cs.length)), (.null)] σ h0 n0 (fun v h τ => σ = τ ∧ v = none ∧ Keep h0 h [s] ∧ Wd Z h s cs) := by
  refine Con.of_go pn5 (ls := #[.val (.ref s), .val (.ref a), .val (.int (0 : Int32)), .val (.int (Int32.ofNat cs.length)), .val (.null), .unset]) (fun m => by first | (simp [entryFrame, mkF, argsToLocals, Value.category]; done) | rfl) ?_
  intro κ D
  have qs := own_ltn E.lt
  have hpos : 0 < cs.length := by
    obtain ⟨c, hc, -⟩ := id hbig
    exact List.length_pos_of_mem hc
  refine Go.aloadN D (pc' := 1) d5_0 rfl rfl rfl ?_
  refine Go.initO D (pc' := 4) (hw _ (List.mem_of_getElem? (i := 22) rfl)) (hw _ (List.mem_of_getElem? (i := 23) rfl)) (hw _ (List.mem_of_getElem? (i := 24) rfl)) d5_1 rfl rfl (by decide) (W := 0) rfl (by decide) ?_
  refine Go.iloadN D (pc' := 5) d5_4 rfl rfl ?_
  refine Go.ifc D (pc' := 27) (pc2 := 8) d5_5 (by decide) (by decide) rfl ?_ ?_
  · intro (hc5 : ¬ (Int32.ofNat cs.length) = 0)
    refine Go.getS D (pc' := 30) (hw _ (List.mem_of_getElem? (i := 25) rfl)) d5_27 rfl O2 ?_
    refine Go.ifc D (pc' := 58) (pc2 := 33) d5_30 (by decide) (by decide) rfl ?_ ?_
    · intro (hc30 : cz = 0)
      exact absurd hc30 hcz
    · intro (hc30 : ¬ cz = 0)
      refine Go.aloadN D (pc' := 34) d5_33 rfl rfl rfl ?_
      refine Go.iloadN D (pc' := 35) d5_34 rfl rfl ?_
      refine Go.iloadN D (pc' := 36) d5_35 rfl rfl ?_
      refine Go.callS D (argsL := [(.ref a), (.int (0 : Int32)), (.int (Int32.ofNat cs.length))]) (rest := []) (pc' := 39) (ce' := 2) (sl' := 16) (con_cmp1W l Z a0 hw h0 n0 σ Z0 a ka cs A h16 h4 hbig AD HI LO) (hw _ (List.mem_of_getElem? (i := 26) rfl)) (hw _ (List.mem_of_getElem? (i := 27) rfl)) (hw _ (List.mem_of_getElem? (i := 28) rfl)) (hw _ (List.mem_of_getElem? (i := 29) rfl)) (by decide) d5_36 rfl pd7 rfl rfl rfl (by decide) (W := 0) rfl (by decide) (by decide) (by decide) (by decide) (by decide) ?_
      intro v36 h1 σ36 q36
      obtain ⟨rfl, d, kd, rfl, gd, E1, D1⟩ := q36
      show Go κ σ h1 2 16 39 #[.val (.ref s), .val (.ref a), .val (.int (0 : Int32)), .val (.int (Int32.ofNat cs.length)), .val (.null), .unset] [(.ref d)]
      refine Go.astore D (pc' := 41) d5_39 rfl rfl (ls' := #[.val (.ref s), .val (.ref a), .val (.int (0 : Int32)), .val (.int (Int32.ofNat cs.length)), .val (.null), .val (.ref d)]) rfl ?_
      refine Go.aloadN D (pc' := 42) d5_41 rfl rfl rfl ?_
      refine Go.aload D (pc' := 44) d5_42 rfl rfl rfl ?_
      refine Go.iloadN D (pc' := 45) d5_44 rfl rfl ?_
      refine Go.callS D (argsL := [(.ref d), (.int (Int32.ofNat cs.length))]) (rest := [(.ref s)]) (pc' := 48) (ce' := 2) (sl' := 16) (con_coderW l Z a0 hw h1 n0 σ d kd cs D1 h4 hpos) (hw _ (List.mem_of_getElem? (i := 34) rfl)) (hw _ (List.mem_of_getElem? (i := 35) rfl)) (hw _ (List.mem_of_getElem? (i := 28) rfl)) (hw _ (List.mem_of_getElem? (i := 36) rfl)) (by decide) d5_45 rfl pd9 rfl rfl rfl (by decide) (W := 1) rfl (by decide) (by decide) (by decide) (by decide) (by decide) ?_
      intro v45 h45 σ45 q45
      obtain ⟨rfl, rfl, rfl⟩ := q45
      show Go κ σ h1 2 16 48 #[.val (.ref s), .val (.ref a), .val (.int (0 : Int32)), .val (.int (Int32.ofNat cs.length)), .val (.null), .val (.ref d)] [(.int (1 : Int32)), (.ref s)]
      refine Go.putF D (pc' := 51) (hw _ (List.mem_of_getElem? (i := 37) rfl)) d5_48 rfl (Fc.ext E1) (E.ext E1) (Or.inr ⟨(hw _ (List.mem_of_getElem? (i := 38) rfl)), rfl, rfl⟩) (hw _ (List.mem_of_getElem? (i := 12) rfl)) (ty := .byte) (by decide) rfl rfl g0 ?_
      intro h3 W3
      refine Go.aloadN D (pc' := 52) d5_51 rfl rfl rfl ?_
      refine Go.aload D (pc' := 54) d5_52 rfl rfl rfl ?_
      refine Go.putF D (pc' := 57) (hw _ (List.mem_of_getElem? (i := 39) rfl)) d5_54 rfl ((Fv.ext E1).other W3 (Or.inr (slot_ne (Or.inr (hw _ (List.mem_of_getElem? (i := 40) rfl))) (Or.inr (hw _ (List.mem_of_getElem? (i := 38) rfl))) (by decide) (t := .array .byte) (t' := .byte) (by decide) (by decide)))) ((E.ext E1).wr W3) (Or.inr ⟨(hw _ (List.mem_of_getElem? (i := 40) rfl)), rfl, rfl⟩) (hw _ (List.mem_of_getElem? (i := 12) rfl)) (ty := (.array .byte)) (by decide) rfl rfl g0 ?_
      intro h4' W4
      refine Go.vret D rfl d5_57 (by decide) (by decide) ?_
      have nb : d ≠ s := own_ne (by omega)
      refine ⟨rfl, rfl, ?_, ⟨((E.ext E1).wr W3).wr W4, ((Fc.ext E1).same W3).other W4 (Or.inr (slot_ne (Or.inr (hw _ (List.mem_of_getElem? (i := 38) rfl))) (Or.inr (hw _ (List.mem_of_getElem? (i := 40) rfl))) (by decide) (t := .byte) (t' := .array .byte) (by decide) (by decide))), d, kd, ((Fv.ext E1).other W3 (Or.inr (slot_ne (Or.inr (hw _ (List.mem_of_getElem? (i := 40) rfl))) (Or.inr (hw _ (List.mem_of_getElem? (i := 38) rfl))) (by decide) (t := .array .byte) (t' := .byte) (by decide) (by decide)))).same W4, (D1.other W3 nb).other W4 nb⟩, h16, h4, hbig⟩
      exact (((Keep.refl _ _).ext E1).wr W3 (Or.inl (by simp))).wr W4 (Or.inl (by simp))
  · intro (hc5 : (Int32.ofNat cs.length) = 0)
    exact absurd (own_inj (j := 0) (by omega) (by omega) hc5) (by omega)
abbrev y4 : MethodName := ⟨"java/lang/String", "<init>", "([C)V"⟩
theorem d4_0 : decode jdk_42_method_3_code 0 = .ok (.aload_n 0, 1) := by decide +kernel
theorem d4_1 : decode jdk_42_method_3_code 1 = .ok (.aload_n 1, 1) := by decide +kernel
theorem d4_2 : decode jdk_42_method_3_code 2 = .ok (.iconst 0, 1) := by decide +kernel
theorem d4_3 : decode jdk_42_method_3_code 3 = .ok (.aload_n 1, 1) := by decide +kernel
theorem d4_4 : decode jdk_42_method_3_code 4 = .ok (.arraylength, 1) := by decide +kernel
theorem d4_5 : decode jdk_42_method_3_code 5 = .ok (.aconst_null, 1) := by decide +kernel
theorem d4_6 : decode jdk_42_method_3_code 6 = .ok (.invokespecial 27, 3) := by decide +kernel
theorem d4_9 : decode jdk_42_method_3_code 9 = .ok (.return_, 1) := by decide +kernel
theorem pd4 : parseMethodDescriptor "([C)V" = some ⟨[(.array .char)], none⟩ := by decide +kernel
theorem pn4 : plainFor y4 = true := by first | exact plainFor_of_name (by first | (simp [plainName, overriddenIn]; done) | decide +kernel) | decide +kernel | rfl
set_option maxRecDepth 65536 in
set_option maxHeartbeats 40000000 in
theorem con_strG (l : Launch) (Z : State) (a0 : Array Value) (hw : ∀ d ∈ tables_1, d.before a0 Z = true) (h0 : Heap) (n0 : Nat) (σ : Sg) (Z0 : n0 ≤ h0.size) (s : Addr) (a : Addr) (ka : ClassId) (cs : List Int32) (A : Arv Z h0 a ka .char (Int32.ofNat cs.length) (cs.map Value.int) (.int 0)) (h16 : ∀ c ∈ cs, C16 c) (h4 : cs.length ≤ 4) (hne : cs ≠ []) (cz : Int32) (hcz : ¬ cz = 0) (O2 : Sta Z Z.heap "java/lang/String" "COMPACT_STRINGS" "Z" (.int cz)) (g0 : n0 ≤ s) (E : Exa Z h0 s "java/lang/String") (Fv : Fld Z h0 s "java/lang/String" "value" "[B" .null) (Fc : Fld Z h0 s "java/lang/String" "coder" "B" (.int 0)) (AD : Sta Z Z.heap "java/lang/StringUTF16" "$assertionsDisabled" "Z" (.int 1)) (HI : Sta Z Z.heap "java/lang/StringUTF16" "HI_BYTE_SHIFT" "I" (.int 0)) (LO : Sta Z Z.heap "java/lang/StringUTF16" "LO_BYTE_SHIFT" "I" (.int 8)) :
    Con l Z y4 jdk_42_method_3_code 2 none ({ frames := 5, cells := 2, slots := 64, locals := 100 } : Room) [] #[(.ref s), (.ref a)] σ h0 n0 (fun v h τ => σ = τ ∧ v = none ∧ Keep h0 h [s] ∧ GS Z h s cs) := by
  refine Con.of_go pn4 (ls := #[.val (.ref s), .val (.ref a)]) (fun m => by first | (simp [entryFrame, mkF, argsToLocals, Value.category]; done) | rfl) ?_
  intro κ D
  refine Go.aloadN D (pc' := 1) d4_0 rfl rfl rfl ?_
  refine Go.aloadN D (pc' := 2) d4_1 rfl rfl rfl ?_
  refine Go.iconst D (pc' := 3) d4_2 rfl (v := (0 : Int32)) rfl ?_
  refine Go.aloadN D (pc' := 4) d4_3 rfl rfl rfl ?_
  refine Go.alen D (pc' := 5) d4_4 rfl A ?_
  refine Go.aconstNull D (pc' := 6) d4_5 rfl  ?_
  by_cases hb : ∃ c ∈ cs, ¬ c < 256
  · skip
    refine Go.callI D (argsL := [(.ref a), (.int (0 : Int32)), (.int (Int32.ofNat cs.length)), (.null)]) (rest := []) (pc' := 9) (ce' := 2) (sl' := 64) (con_str4W l Z a0 hw h0 n0 σ Z0 s a ka cs A h16 h4 hb cz hcz O2 g0 E Fv Fc AD HI LO) rfl (hw _ (List.mem_of_getElem? (i := 18) rfl)) (hw _ (List.mem_of_getElem? (i := 19) rfl)) (hw _ (List.mem_of_getElem? (i := 13) rfl)) (hw _ (List.mem_of_getElem? (i := 21) rfl)) (by decide) d4_6 rfl pd5 rfl rfl rfl (by decide) (W := 0) rfl (by decide) (by decide) (by decide) (by decide) (by decide) ?_
    intro v6 h1 σ6 q6
    obtain ⟨rfl, rfl, q1, q2⟩ := q6
    show Go κ σ h1 2 64 9 #[.val (.ref s), .val (.ref a)] []
    refine Go.vret D rfl d4_9 (by decide) (by decide) ?_
    exact ⟨rfl, rfl, q1, Or.inr q2⟩
  · skip
    have hlat : Lat cs := ⟨fun c hc => ⟨(h16 c hc).1, Classical.not_not.mp (fun q => hb ⟨c, hc, q⟩)⟩, by omega⟩
    refine Go.callI D (argsL := [(.ref a), (.int (0 : Int32)), (.int (Int32.ofNat cs.length)), (.null)]) (rest := []) (pc' := 9) (ce' := 2) (sl' := 64) (con_strN4 l Z a0 hw h0 n0 Z0 σ s a ka cs A hlat hne cz hcz O2 g0 E Fv Fc) rfl (hw _ (List.mem_of_getElem? (i := 18) rfl)) (hw _ (List.mem_of_getElem? (i := 19) rfl)) (hw _ (List.mem_of_getElem? (i := 13) rfl)) (hw _ (List.mem_of_getElem? (i := 21) rfl)) (by decide) d4_6 rfl pd5 rfl rfl rfl (by decide) (W := 0) rfl (by decide) (by decide) (by decide) (by decide) (by decide) ?_
    intro v6 h1 σ6 q6
    obtain ⟨rfl, rfl, q1, q2, q3⟩ := q6
    show Go κ σ h1 2 64 9 #[.val (.ref s), .val (.ref a)] []
    refine Go.vret D rfl d4_9 (by decide) (by decide) ?_
    exact ⟨rfl, rfl, q1, Or.inl ⟨q2, q3⟩⟩
abbrev y3 : MethodName := ⟨"com/example/ticks_into_totals/ticksintototals/CounterNameEqualsPinLaw", "mk", "(CCI)Ljava/lang/String;"⟩
theorem d3_0 : decode method_4_code 0 = .ok (.iload_n 2, 1) := by decide +kernel
theorem d3_1 : decode method_4_code 1 = .ok (.iconst 1, 1) := by decide +kernel
theorem d3_2 : decode method_4_code 2 = .ok (.if_icmp .ne 18, 3) := by decide +kernel
theorem d3_5 : decode method_4_code 5 = .ok (.new 10, 3) := by decide +kernel
theorem d3_8 : decode method_4_code 8 = .ok (.dup, 1) := by decide +kernel
theorem d3_9 : decode method_4_code 9 = .ok (.iconst 1, 1) := by decide +kernel
theorem d3_10 : decode method_4_code 10 = .ok (.newarray .char, 2) := by decide +kernel
theorem d3_12 : decode method_4_code 12 = .ok (.dup, 1) := by decide +kernel
theorem d3_13 : decode method_4_code 13 = .ok (.iconst 0, 1) := by decide +kernel
theorem d3_14 : decode method_4_code 14 = .ok (.iload_n 0, 1) := by decide +kernel
theorem d3_15 : decode method_4_code 15 = .ok (.castore, 1) := by decide +kernel
theorem d3_16 : decode method_4_code 16 = .ok (.invokespecial 12, 3) := by decide +kernel
theorem d3_19 : decode method_4_code 19 = .ok (.areturn, 1) := by decide +kernel
theorem d3_20 : decode method_4_code 20 = .ok (.new 10, 3) := by decide +kernel
theorem d3_23 : decode method_4_code 23 = .ok (.dup, 1) := by decide +kernel
theorem d3_24 : decode method_4_code 24 = .ok (.iconst 2, 1) := by decide +kernel
theorem d3_25 : decode method_4_code 25 = .ok (.newarray .char, 2) := by decide +kernel
theorem d3_27 : decode method_4_code 27 = .ok (.dup, 1) := by decide +kernel
theorem d3_28 : decode method_4_code 28 = .ok (.iconst 0, 1) := by decide +kernel
theorem d3_29 : decode method_4_code 29 = .ok (.iload_n 0, 1) := by decide +kernel
theorem d3_30 : decode method_4_code 30 = .ok (.castore, 1) := by decide +kernel
theorem d3_31 : decode method_4_code 31 = .ok (.dup, 1) := by decide +kernel
theorem d3_32 : decode method_4_code 32 = .ok (.iconst 1, 1) := by decide +kernel
theorem d3_33 : decode method_4_code 33 = .ok (.iload_n 1, 1) := by decide +kernel
theorem d3_34 : decode method_4_code 34 = .ok (.castore, 1) := by decide +kernel
theorem d3_35 : decode method_4_code 35 = .ok (.invokespecial 12, 3) := by decide +kernel
theorem d3_38 : decode method_4_code 38 = .ok (.areturn, 1) := by decide +kernel
theorem pd3 : parseMethodDescriptor "(CCI)Ljava/lang/String;" = some ⟨[.char, .char, .int], (some (.object "java/lang/String"))⟩ := by decide +kernel
theorem pn3 : plainFor y3 = true := by first | exact plainFor_of_name (by first | (simp [plainName, overriddenIn]; done) | decide +kernel) | decide +kernel | rfl
set_option maxRecDepth 65536 in
set_option maxHeartbeats 40000000 in
theorem con_mk (l : Launch) (Z : State) (a0 : Array Value) (hw : ∀ d ∈ tables_1, d.before a0 Z = true) (h0 : Heap) (n0 : Nat) (Z0 : n0 ≤ h0.size) (σ : Sg) (p q n : Int32) (hp : C16 p) (hq : C16 q) (cz : Int32) (hcz : ¬ cz = 0) (O2 : Sta Z Z.heap "java/lang/String" "COMPACT_STRINGS" "Z" (.int cz)) (AD : Sta Z Z.heap "java/lang/StringUTF16" "$assertionsDisabled" "Z" (.int 1)) (HI : Sta Z Z.heap "java/lang/StringUTF16" "HI_BYTE_SHIFT" "I" (.int 0)) (LO : Sta Z Z.heap "java/lang/StringUTF16" "LO_BYTE_SHIFT" "I" (.int 8)) :
    Con l Z y3 method_4_code 3 ((some (.object "java/lang/String"))) ({ frames := 6, cells := 4, slots := 70, locals := 130 } : Room) [] #[(.int p), (.int q), (.int n)] σ h0 n0 (fun v h τ => σ = τ ∧ ∃ a, v = some (.ref a) ∧ h0.size ≤ a ∧ Ext h0 h ∧ GS Z h a (ch1 n p q)) := by
  refine Con.of_go pn3 (ls := #[.val (.int p), .val (.int q), .val (.int n)]) (fun m => by first | (simp [entryFrame, mkF, argsToLocals, Value.category]; done) | rfl) ?_
  intro κ D
  refine Go.iloadN D (pc' := 1) d3_0 rfl rfl ?_
  refine Go.iconst D (pc' := 2) d3_1 rfl (v := (1 : Int32)) rfl ?_
  refine Go.icmp D (pc' := 20) (pc2 := 5) d3_2 (by decide) (by decide) rfl ?_ ?_
  · intro (hc2 : ¬ n = (1 : Int32))
    refine Go.newO D (pc' := 23) (ce' := 1) (sl' := 4) (hw _ (List.mem_of_getElem? (i := 11) rfl)) (hw _ (List.mem_of_getElem? (i := 12) rfl)) (hw _ (List.mem_of_getElem? (i := 13) rfl)) d3_20 rfl rfl rfl (by decide) (by decide) ?_
    intro h20 s gs E20 X20 D20
    have V20 := D20 (Or.inr (hw _ (List.mem_of_getElem? (i := 40) rfl))) (ty := .array .byte) (by decide)
    have C20 := D20 (Or.inr (hw _ (List.mem_of_getElem? (i := 38) rfl))) (ty := .byte) (by decide)
    have lx := own_ltn X20.lt
    have z1 := E20.1
    refine Go.dup D (pc' := 24) d3_23 rfl rfl ?_
    refine Go.iconst D (pc' := 25) d3_24 rfl (v := (2 : Int32)) rfl ?_
    refine Go.newP D (pc' := 27) (aty := .char) (cap := 2) (ce' := 2) (sl' := 6) (hw _ (List.mem_of_getElem? (i := 14) rfl)) d3_25 rfl (by decide) (by decide) (by decide) rfl rfl (by decide) (by decide) ?_
    intro h25 a ka ga Ea Aa
    have z2 := Ea.1
    have nsa : s ≠ a := own_ne (by omega)
    refine Go.dup D (pc' := 28) d3_27 rfl rfl ?_
    refine Go.iconst D (pc' := 29) d3_28 rfl (v := (0 : Int32)) rfl ?_
    refine Go.iloadN D (pc' := 30) d3_29 rfl rfl ?_
    refine Go.castore D (pc' := 31) (i := 0) d3_30 rfl (Aa.pad (vs' := [.int 0, .int 0]) (fun i => pad_rep [] (.int 0) 2 i)) (by decide) (by decide) rfl (by simp) (by omega) (char16_nar hp) ?_
    intro h30 K30 A30
    refine Go.dup D (pc' := 32) d3_31 rfl rfl ?_
    refine Go.iconst D (pc' := 33) d3_32 rfl (v := (1 : Int32)) rfl ?_
    refine Go.iloadN D (pc' := 34) d3_33 rfl rfl ?_
    refine Go.castore D (pc' := 35) (i := 1) d3_34 rfl A30 (by decide) (by decide) rfl (by simp) (by omega) (char16_nar hq) ?_
    intro h34 K34 A34
    have ex := (((E20.tr Ea).keepN K30 (by omega)).keepN K34 (by omega))
    have zz : n0 ≤ h34.size := Nat.le_trans Z0 ex.1
    have h16 : ∀ c ∈ [p, q], C16 c := by
      intro c hc
      simp only [List.mem_cons, List.not_mem_nil, or_false] at hc
      rcases hc with rfl | rfl <;> assumption
    refine Go.callI D (argsL := [(.ref a)]) (rest := [(.ref s)]) (pc' := 38) (ce' := 4) (sl' := 70) (con_strG l Z a0 hw h34 n0 σ zz s a ka [p, q] A34 h16 (by simp) (by simp) cz hcz O2 (by omega) (((X20.ext Ea).keep K30).keep K34) (((V20.ext Ea).keep K30 (nin1 nsa)).keep K34 (nin1 nsa)) (((C20.ext Ea).keep K30 (nin1 nsa)).keep K34 (nin1 nsa)) AD HI LO) rfl (hw _ (List.mem_of_getElem? (i := 15) rfl)) (hw _ (List.mem_of_getElem? (i := 16) rfl)) (hw _ (List.mem_of_getElem? (i := 13) rfl)) (hw _ (List.mem_of_getElem? (i := 17) rfl)) (by decide) d3_35 rfl pd4 rfl rfl rfl (by decide) (W := 1) rfl (by decide) (by decide) (by decide) (by decide) (by decide) ?_
    intro v35 h35 σ35 q35
    obtain ⟨rfl, rfl, kk, S⟩ := q35
    show Go κ σ h35 4 70 38 #[.val (.int p), .val (.int q), .val (.int n)] [(.ref s)]
    refine Go.aret D rfl rfl rfl d3_38 (by decide) (by decide) ?_
    exact ⟨rfl, s, rfl, by omega, ex.keepN kk (by omega), by rw [show ch1 n p q = [p, q] from if_neg hc2]; exact S⟩
  · intro (hc2 : n = (1 : Int32))
    refine Go.newO D (pc' := 8) (ce' := 1) (sl' := 4) (hw _ (List.mem_of_getElem? (i := 11) rfl)) (hw _ (List.mem_of_getElem? (i := 12) rfl)) (hw _ (List.mem_of_getElem? (i := 13) rfl)) d3_5 rfl rfl rfl (by decide) (by decide) ?_
    intro h5 s gs E5 X5 D5
    have V5 := D5 (Or.inr (hw _ (List.mem_of_getElem? (i := 40) rfl))) (ty := .array .byte) (by decide)
    have C5 := D5 (Or.inr (hw _ (List.mem_of_getElem? (i := 38) rfl))) (ty := .byte) (by decide)
    have lx := own_ltn X5.lt
    have z1 := E5.1
    refine Go.dup D (pc' := 9) d3_8 rfl rfl ?_
    refine Go.iconst D (pc' := 10) d3_9 rfl (v := (1 : Int32)) rfl ?_
    refine Go.newP D (pc' := 12) (aty := .char) (cap := 2) (ce' := 2) (sl' := 6) (hw _ (List.mem_of_getElem? (i := 14) rfl)) d3_10 rfl (by decide) (by decide) (by decide) rfl rfl (by decide) (by decide) ?_
    intro h10 a ka ga Ea Aa
    have z2 := Ea.1
    have nsa : s ≠ a := own_ne (by omega)
    refine Go.dup D (pc' := 13) d3_12 rfl rfl ?_
    refine Go.iconst D (pc' := 14) d3_13 rfl (v := (0 : Int32)) rfl ?_
    refine Go.iloadN D (pc' := 15) d3_14 rfl rfl ?_
    refine Go.castore D (pc' := 16) (i := 0) d3_15 rfl (Aa.pad (vs' := [.int 0]) (fun i => pad_rep [] (.int 0) 1 i)) (by decide) (by decide) rfl (by simp) (by omega) (char16_nar hp) ?_
    intro h15 K15 A15
    have ex := ((E5.tr Ea).keepN K15 (by omega))
    have zz : n0 ≤ h15.size := Nat.le_trans Z0 ex.1
    have h16 : ∀ c ∈ [p], C16 c := by
      intro c hc
      simp only [List.mem_cons, List.not_mem_nil, or_false] at hc
      rcases hc with rfl <;> assumption
    refine Go.callI D (argsL := [(.ref a)]) (rest := [(.ref s)]) (pc' := 19) (ce' := 4) (sl' := 70) (con_strG l Z a0 hw h15 n0 σ zz s a ka [p] A15 h16 (by simp) (by simp) cz hcz O2 (by omega) ((X5.ext Ea).keep K15) ((V5.ext Ea).keep K15 (nin1 nsa)) ((C5.ext Ea).keep K15 (nin1 nsa)) AD HI LO) rfl (hw _ (List.mem_of_getElem? (i := 15) rfl)) (hw _ (List.mem_of_getElem? (i := 16) rfl)) (hw _ (List.mem_of_getElem? (i := 13) rfl)) (hw _ (List.mem_of_getElem? (i := 17) rfl)) (by decide) d3_16 rfl pd4 rfl rfl rfl (by decide) (W := 1) rfl (by decide) (by decide) (by decide) (by decide) (by decide) ?_
    intro v16 h16 σ16 q16
    obtain ⟨rfl, rfl, kk, S⟩ := q16
    show Go κ σ h16 4 70 19 #[.val (.int p), .val (.int q), .val (.int n)] [(.ref s)]
    refine Go.aret D rfl rfl rfl d3_19 (by decide) (by decide) ?_
    exact ⟨rfl, s, rfl, by omega, ex.keepN kk (by omega), by rw [show ch1 n p q = [p] from if_pos hc2]; exact S⟩
abbrev y26 : MethodName := ⟨"java/lang/String", "codePointAt", "(I)I"⟩
theorem d26_0 : decode jdk_42_method_57_code 0 = .ok (.aload_n 0, 1) := by decide +kernel
theorem d26_1 : decode jdk_42_method_57_code 1 = .ok (.invokevirtual 492, 3) := by decide +kernel
theorem d26_4 : decode jdk_42_method_57_code 4 = .ok (.ifCond .eq 23, 3) := by decide +kernel
theorem d26_7 : decode jdk_42_method_57_code 7 = .ok (.iload_n 1, 1) := by decide +kernel
theorem d26_8 : decode jdk_42_method_57_code 8 = .ok (.aload_n 0, 1) := by decide +kernel
theorem d26_9 : decode jdk_42_method_57_code 9 = .ok (.getfield 9, 3) := by decide +kernel
theorem d26_12 : decode jdk_42_method_57_code 12 = .ok (.arraylength, 1) := by decide +kernel
theorem d26_13 : decode jdk_42_method_57_code 13 = .ok (.invokestatic 499, 3) := by decide +kernel
theorem d26_16 : decode jdk_42_method_57_code 16 = .ok (.aload_n 0, 1) := by decide +kernel
theorem d26_17 : decode jdk_42_method_57_code 17 = .ok (.getfield 9, 3) := by decide +kernel
theorem d26_20 : decode jdk_42_method_57_code 20 = .ok (.iload_n 1, 1) := by decide +kernel
theorem d26_21 : decode jdk_42_method_57_code 21 = .ok (.baload, 1) := by decide +kernel
theorem d26_22 : decode jdk_42_method_57_code 22 = .ok (.sipush 255, 3) := by decide +kernel
theorem d26_25 : decode jdk_42_method_57_code 25 = .ok (.iand, 1) := by decide +kernel
theorem d26_26 : decode jdk_42_method_57_code 26 = .ok (.ireturn, 1) := by decide +kernel
theorem pd26 : parseMethodDescriptor "(I)I" = some ⟨[.int], (some .int)⟩ := by decide +kernel
theorem pn26 : plainFor y26 = true := by first | exact plainFor_of_name (by first | (simp [plainName, overriddenIn]; done) | decide +kernel) | decide +kernel | rfl
set_option maxRecDepth 65536 in
set_option maxHeartbeats 40000000 in
theorem con_cpa (l : Launch) (Z : State) (a0 : Array Value) (hw : ∀ d ∈ tables_1, d.before a0 Z = true) (h0 : Heap) (n0 : Nat) (σ : Sg) (s : Addr) (cs : List Int32) (S : Str Z h0 s cs) (i : Nat) (hi : i < cs.length) (cz : Int32) (hcz : ¬ cz = 0) (O2 : Sta Z Z.heap "java/lang/String" "COMPACT_STRINGS" "Z" (.int cz)) (fm : Value) (rf : fm.isRef = true) (O4 : Sta Z Z.heap "jdk/internal/util/Preconditions" "SIOOBE_FORMATTER" "Ljava/util/function/BiFunction;" fm) :
    Con l Z y26 jdk_42_method_57_code 3 ((some .int)) ({ frames := 2, cells := 0, slots := 0, locals := 40 } : Room) [] #[(.ref s), (.int (Int32.ofNat i))] σ h0 n0 (fun v h τ => h0 = h ∧ σ = τ ∧ v = some (.int cs[i])) := by
  refine Con.of_go pn26 (ls := #[.val (.ref s), .val (.int (Int32.ofNat i)), .unset]) (fun m => by first | (simp [entryFrame, mkF, argsToLocals, Value.category]; done) | rfl) ?_
  intro κ D
  obtain ⟨e1, e2, b, kb, e3, e4⟩ := id S.1
  have hl := S.2.2
  refine Go.aloadN D (pc' := 1) d26_0 rfl rfl rfl ?_
  refine Go.callV D (argsL := []) (rest := []) (pc' := 4) (ce' := 0) (sl' := 0) (con_sisl l Z a0 hw h0 n0 σ s e2 cz hcz O2) (hw _ (List.mem_of_getElem? (i := 86) rfl)) (hw _ (List.mem_of_getElem? (i := 87) rfl)) (hw _ (List.mem_of_getElem? (i := 89) rfl)) (hw _ (List.mem_of_getElem? (i := 88) rfl)) (hw _ (List.mem_of_getElem? (i := 13) rfl)) (hw _ (List.mem_of_getElem? (i := 90) rfl)) (nfS (hw _ (List.mem_of_getElem? (i := 89) rfl))) (by decide) e1 d26_1 rfl pd19 rfl rfl rfl (by decide) (W := 0) rfl (by decide) (by decide) (by decide) (by decide) (by decide) ?_
  intro v1 h1 σ1 q1
  obtain ⟨rfl, rfl, rfl⟩ := q1
  show Go κ σ h0 0 0 4 #[.val (.ref s), .val (.int (Int32.ofNat i)), .unset] [(.int (1 : Int32))]
  refine Go.ifc D (pc' := 27) (pc2 := 7) d26_4 (by decide) (by decide) rfl (fun (hc : (1 : Int32) = 0) => absurd hc (by decide)) (fun _ => ?_)
  refine Go.iloadN D (pc' := 8) d26_7 rfl rfl ?_
  refine Go.aloadN D (pc' := 9) d26_8 rfl rfl rfl ?_
  refine Go.getF D (pc' := 12) (hw _ (List.mem_of_getElem? (i := 39) rfl)) d26_9 rfl e3 ?_
  refine Go.alen D (pc' := 13) d26_12 rfl e4 ?_
  refine Go.callS D (argsL := [(.int (Int32.ofNat i)), (.int (Int32.ofNat cs.length))]) (rest := []) (pc' := 16) (ce' := 0) (sl' := 0) (con_sci l Z a0 hw h0 n0 σ (Int32.ofNat i) (Int32.ofNat cs.length) (own_nn (by omega)) ((own_lt (by omega) (by omega)).mpr hi) fm rf O4) (hw _ (List.mem_of_getElem? (i := 118) rfl)) (hw _ (List.mem_of_getElem? (i := 96) rfl)) (hw _ (List.mem_of_getElem? (i := 13) rfl)) (hw _ (List.mem_of_getElem? (i := 97) rfl)) (by decide) d26_13 rfl pd21 rfl rfl rfl (by decide) (W := 0) rfl (by decide) (by decide) (by decide) (by decide) (by decide) ?_
  intro v13 h13 σ13 q13
  obtain ⟨rfl, rfl, rfl⟩ := q13
  show Go κ σ h0 0 0 16 #[.val (.ref s), .val (.int (Int32.ofNat i)), .unset] []
  refine Go.aloadN D (pc' := 17) d26_16 rfl rfl rfl ?_
  refine Go.getF D (pc' := 20) (hw _ (List.mem_of_getElem? (i := 39) rfl)) d26_17 rfl e3 ?_
  refine Go.iloadN D (pc' := 21) d26_20 rfl rfl ?_
  refine Go.baload D (pc' := 22) d26_21 rfl e4 (own_nn (by omega)) ((own_lt (by omega) (by omega)).mpr hi) (v := .int (cs[i].toInt8.toInt32)) (by rw [own_tn (by omega)]; exact bv_at hi _) ?_
  refine Go.sipush D (pc' := 25) d26_22 rfl (v := (255 : Int32)) rfl ?_
  refine Go.iand D (pc' := 26) d26_25 rfl  ?_
  rw [byte_back (S.2.1 _ (List.getElem_mem hi))]
  refine Go.iret D rfl d26_26 (by decide) (by decide) ?_
  exact ⟨rfl, rfl, rfl⟩
abbrev y27 : MethodName := ⟨"java/lang/Character", "charCount", "(I)I"⟩
theorem d27_0 : decode jdk_89_method_18_code 0 = .ok (.iload_n 0, 1) := by decide +kernel
theorem d27_1 : decode jdk_89_method_18_code 1 = .ok (.ldc 73, 2) := by decide +kernel
theorem d27_3 : decode jdk_89_method_18_code 3 = .ok (.if_icmp .lt 7, 3) := by decide +kernel
theorem d27_6 : decode jdk_89_method_18_code 6 = .ok (.iconst 2, 1) := by decide +kernel
theorem d27_7 : decode jdk_89_method_18_code 7 = .ok (.goto 4, 3) := by decide +kernel
theorem d27_10 : decode jdk_89_method_18_code 10 = .ok (.iconst 1, 1) := by decide +kernel
theorem d27_11 : decode jdk_89_method_18_code 11 = .ok (.ireturn, 1) := by decide +kernel
theorem pd27 : parseMethodDescriptor "(I)I" = some ⟨[.int], (some .int)⟩ := by decide +kernel
theorem pn27 : plainFor y27 = true := by first | exact plainFor_of_name (by first | (simp [plainName, overriddenIn]; done) | decide +kernel) | decide +kernel | rfl
set_option maxRecDepth 65536 in
set_option maxHeartbeats 40000000 in
theorem con_cct (l : Launch) (Z : State) (a0 : Array Value) (hw : ∀ d ∈ tables_1, d.before a0 Z = true) (h0 : Heap) (n0 : Nat) (σ : Sg) (x : Int32) (hx : x < 65536) :
    Con l Z y27 jdk_89_method_18_code 1 ((some .int)) ({ frames := 0, cells := 0, slots := 0, locals := 0 } : Room) [] #[(.int x)] σ h0 n0 (fun v h τ => h0 = h ∧ σ = τ ∧ v = some (.int 1)) := by
  refine Con.of_go pn27 (ls := #[.val (.int x)]) (fun m => by first | (simp [entryFrame, mkF, argsToLocals, Value.category]; done) | rfl) ?_
  intro κ D
  refine Go.iloadN D (pc' := 1) d27_0 rfl rfl ?_
  refine Go.ldcInt D (pc' := 3) (hw _ (List.mem_of_getElem? (i := 124) rfl)) d27_1 rfl ?_
  refine Go.icmp D (pc' := 10) (pc2 := 6) d27_3 (by decide) (by decide) rfl ?_ ?_
  · intro (hc3 : x < (65536 : Int32))
    refine Go.iconst D (pc' := 11) d27_10 rfl (v := (1 : Int32)) rfl ?_
    refine Go.iret D rfl d27_11 (by decide) (by decide) ?_
    exact ⟨rfl, rfl, rfl⟩
  · intro (hc3 : ¬ x < (65536 : Int32))
    exact absurd hx hc3
abbrev y25 : MethodName := ⟨"com/example/ticks_into_totals/ticksintototals/CounterName", "pairsEverySurrogate", "(Ljava/lang/String;)Z"⟩
theorem d25_0 : decode prog_3_method_8_code 0 = .ok (.iconst 0, 1) := by decide +kernel
theorem d25_1 : decode prog_3_method_8_code 1 = .ok (.istore_n 1, 1) := by decide +kernel
theorem d25_2 : decode prog_3_method_8_code 2 = .ok (.iload_n 1, 1) := by decide +kernel
theorem d25_3 : decode prog_3_method_8_code 3 = .ok (.aload_n 0, 1) := by decide +kernel
theorem d25_4 : decode prog_3_method_8_code 4 = .ok (.invokevirtual 49, 3) := by decide +kernel
theorem d25_7 : decode prog_3_method_8_code 7 = .ok (.if_icmp .ge 33, 3) := by decide +kernel
theorem d25_10 : decode prog_3_method_8_code 10 = .ok (.aload_n 0, 1) := by decide +kernel
theorem d25_11 : decode prog_3_method_8_code 11 = .ok (.iload_n 1, 1) := by decide +kernel
theorem d25_12 : decode prog_3_method_8_code 12 = .ok (.invokevirtual 106, 3) := by decide +kernel
theorem d25_15 : decode prog_3_method_8_code 15 = .ok (.istore_n 2, 1) := by decide +kernel
theorem d25_16 : decode prog_3_method_8_code 16 = .ok (.iload_n 2, 1) := by decide +kernel
theorem d25_17 : decode prog_3_method_8_code 17 = .ok (.ldc 112, 2) := by decide +kernel
theorem d25_19 : decode prog_3_method_8_code 19 = .ok (.if_icmp .lt 11, 3) := by decide +kernel
theorem d25_22 : decode prog_3_method_8_code 22 = .ok (.iload_n 2, 1) := by decide +kernel
theorem d25_23 : decode prog_3_method_8_code 23 = .ok (.ldc 113, 2) := by decide +kernel
theorem d25_25 : decode prog_3_method_8_code 25 = .ok (.if_icmp .gt 5, 3) := by decide +kernel
theorem d25_28 : decode prog_3_method_8_code 28 = .ok (.iconst 0, 1) := by decide +kernel
theorem d25_29 : decode prog_3_method_8_code 29 = .ok (.ireturn, 1) := by decide +kernel
theorem d25_30 : decode prog_3_method_8_code 30 = .ok (.iload_n 1, 1) := by decide +kernel
theorem d25_31 : decode prog_3_method_8_code 31 = .ok (.iload_n 2, 1) := by decide +kernel
theorem d25_32 : decode prog_3_method_8_code 32 = .ok (.invokestatic 114, 3) := by decide +kernel
theorem d25_35 : decode prog_3_method_8_code 35 = .ok (.iadd, 1) := by decide +kernel
theorem d25_36 : decode prog_3_method_8_code 36 = .ok (.istore_n 1, 1) := by decide +kernel
theorem d25_37 : decode prog_3_method_8_code 37 = .ok (.goto (-35), 3) := by decide +kernel
theorem d25_40 : decode prog_3_method_8_code 40 = .ok (.iconst 1, 1) := by decide +kernel
theorem d25_41 : decode prog_3_method_8_code 41 = .ok (.ireturn, 1) := by decide +kernel
theorem pd25 : parseMethodDescriptor "(Ljava/lang/String;)Z" = some ⟨[(.object "java/lang/String")], (some .boolean)⟩ := by decide +kernel
theorem pn25 : plainFor y25 = true := by first | exact plainFor_of_name (by first | (simp [plainName, overriddenIn]; done) | decide +kernel) | decide +kernel | rfl
set_option maxRecDepth 65536 in
set_option maxHeartbeats 40000000 in
theorem con_pairs (l : Launch) (Z : State) (a0 : Array Value) (hw : ∀ d ∈ tables_1, d.before a0 Z = true) (h0 : Heap) (n0 : Nat) (σ : Sg) (s : Addr) (cs : List Int32) (S : Str Z h0 s cs) (cz : Int32) (hcz : ¬ cz = 0) (O2 : Sta Z Z.heap "java/lang/String" "COMPACT_STRINGS" "Z" (.int cz)) (fm : Value) (rf : fm.isRef = true) (O4 : Sta Z Z.heap "jdk/internal/util/Preconditions" "SIOOBE_FORMATTER" "Ljava/util/function/BiFunction;" fm) :
    Con l Z y25 prog_3_method_8_code 3 ((some .boolean)) ({ frames := 3, cells := 0, slots := 0, locals := 70 } : Room) [] #[(.ref s)] σ h0 n0 (fun v h τ => h0 = h ∧ σ = τ ∧ v = some (.int 1)) := by
  refine Con.of_go pn25 (ls := #[.val (.ref s), .unset, .unset]) (fun m => by first | (simp [entryFrame, mkF, argsToLocals, Value.category]; done) | rfl) ?_
  intro κ D
  have hl := S.2.2
  have loop : ∀ (N i : Nat) (s2 : Slot), cs.length - i = N → i ≤ cs.length → (s2 = .unset ∨ ∃ w, s2 = .val w ∧ w.category = 1) → Go κ σ h0 0 0 2 #[.val (.ref s), .val (.int (Int32.ofNat i)), s2] [] := by
    intro N
    induction N using Nat.strongRecOn with
    | _ N ih =>
      intro i s2 hN hi0 hs2
      refine Go.iloadN D (pc' := 3) d25_2 rfl rfl ?_
      refine Go.aloadN D (pc' := 4) d25_3 rfl rfl rfl ?_
      refine Go.callV D (argsL := []) (rest := [(.int (Int32.ofNat i))]) (pc' := 7) (ce' := 0) (sl' := 0) (con_slen l Z a0 hw h0 n0 σ s cs S cz hcz O2) (hw _ (List.mem_of_getElem? (i := 68) rfl)) (hw _ (List.mem_of_getElem? (i := 69) rfl)) (hw _ (List.mem_of_getElem? (i := 71) rfl)) (hw _ (List.mem_of_getElem? (i := 70) rfl)) (hw _ (List.mem_of_getElem? (i := 13) rfl)) (hw _ (List.mem_of_getElem? (i := 72) rfl)) (nfS (hw _ (List.mem_of_getElem? (i := 71) rfl))) (by decide) S.1.1 d25_4 rfl pd15 rfl rfl rfl (by decide) (W := 1) rfl (by decide) (by decide) (by decide) (by decide) (by decide) ?_
      intro v4 h4 σ4 q4
      obtain ⟨rfl, rfl, rfl⟩ := q4
      show Go κ σ h0 0 0 7 #[.val (.ref s), .val (.int (Int32.ofNat i)), s2] [(.int (Int32.ofNat cs.length)), (.int (Int32.ofNat i))]
      refine Go.icmp D (pc' := 40) (pc2 := 10) d25_7 (by decide) (by decide) rfl ?_ ?_
      · intro (hc7 : ¬ (Int32.ofNat i) < (Int32.ofNat cs.length))
        refine Go.iconst D (pc' := 41) d25_40 rfl (v := (1 : Int32)) rfl ?_
        refine Go.zret D rfl rfl d25_41 (by decide) (by decide) ?_
        exact ⟨rfl, rfl, rfl⟩
      · intro (hc7 : (Int32.ofNat i) < (Int32.ofNat cs.length))
        have hi : i < cs.length := (own_lt (by omega) (by omega)).mp hc7
        refine Go.aloadN D (pc' := 11) d25_10 rfl rfl rfl ?_
        refine Go.iloadN D (pc' := 12) d25_11 rfl rfl ?_
        refine Go.callV D (argsL := [(.int (Int32.ofNat i))]) (rest := []) (pc' := 15) (ce' := 0) (sl' := 0) (con_cpa l Z a0 hw h0 n0 σ s cs S i hi cz hcz O2 fm rf O4) (hw _ (List.mem_of_getElem? (i := 113) rfl)) (hw _ (List.mem_of_getElem? (i := 114) rfl)) (hw _ (List.mem_of_getElem? (i := 116) rfl)) (hw _ (List.mem_of_getElem? (i := 115) rfl)) (hw _ (List.mem_of_getElem? (i := 13) rfl)) (hw _ (List.mem_of_getElem? (i := 117) rfl)) (nfS (hw _ (List.mem_of_getElem? (i := 116) rfl))) (by decide) S.1.1 d25_12 rfl pd26 rfl rfl rfl (by decide) (W := 0) rfl (by decide) (by decide) (by decide) (by decide) (by decide) ?_
        intro v12 h12 σ12 q12
        obtain ⟨rfl, rfl, rfl⟩ := q12
        show Go κ σ h0 0 0 15 #[.val (.ref s), .val (.int (Int32.ofNat i)), s2] [(.int cs[i])]
        refine Go.istoreNU D (pc' := 16) d25_15 rfl rfl hs2 (ls' := #[.val (.ref s), .val (.int (Int32.ofNat i)), .val (.int cs[i])]) rfl ?_
        refine Go.iloadN D (pc' := 17) d25_16 rfl rfl ?_
        refine Go.ldcInt D (pc' := 19) (hw _ (List.mem_of_getElem? (i := 119) rfl)) d25_17 rfl ?_
        refine Go.icmp D (pc' := 30) (pc2 := 22) d25_19 (by decide) (by decide) rfl ?_ ?_
        · intro (hc19 : cs[i] < (55296 : Int32))
          refine Go.iloadN D (pc' := 31) d25_30 rfl rfl ?_
          refine Go.iloadN D (pc' := 32) d25_31 rfl rfl ?_
          refine Go.callS D (argsL := [(.int cs[i])]) (rest := [(.int (Int32.ofNat i))]) (pc' := 35) (ce' := 0) (sl' := 0) (con_cct l Z a0 hw h0 n0 σ cs[i] (Int32.lt_trans (S.2.1 _ (List.getElem_mem hi)).2 (by decide))) (hw _ (List.mem_of_getElem? (i := 120) rfl)) (hw _ (List.mem_of_getElem? (i := 121) rfl)) (hw _ (List.mem_of_getElem? (i := 122) rfl)) (hw _ (List.mem_of_getElem? (i := 123) rfl)) (by decide) d25_32 rfl pd27 rfl rfl rfl (by decide) (W := 1) rfl (by decide) (by decide) (by decide) (by decide) (by decide) ?_
          intro v32 h32 σ32 q32
          obtain ⟨rfl, rfl, rfl⟩ := q32
          show Go κ σ h0 0 0 35 #[.val (.ref s), .val (.int (Int32.ofNat i)), .val (.int cs[i])] [(.int (1 : Int32)), (.int (Int32.ofNat i))]
          refine Go.iadd D (pc' := 36) d25_35 rfl  ?_
          refine Go.istoreN D (pc' := 37) d25_36 rfl (ls' := #[.val (.ref s), .val (.int ((Int32.ofNat i) + (1 : Int32))), .val (.int cs[i])]) rfl ?_
          refine Go.goto D (pc' := 2) d25_37 (by decide) (by decide) ?_
          rw [own_succ]
          exact ih (cs.length - (i + 1)) (by omega) (i + 1) _ rfl (by omega) (Or.inr ⟨_, rfl, rfl⟩)
        · intro (hc19 : ¬ cs[i] < (55296 : Int32))
          exact absurd (Int32.lt_trans (S.2.1 _ (List.getElem_mem hi)).2 (by decide)) hc19
  refine Go.iconst D (pc' := 1) d25_0 rfl (v := (0 : Int32)) rfl ?_
  refine Go.istoreN D (pc' := 2) d25_1 rfl (ls' := #[.val (.ref s), .val (.int (0 : Int32)), .unset]) rfl ?_
  exact loop (cs.length - 0) 0 _ rfl (by omega) (Or.inl rfl)
abbrev y33 : MethodName := ⟨"com/example/ticks_into_totals/ticksintototals/CounterName", "hasControlCharacter", "(Ljava/lang/String;)Z"⟩
theorem d33_0 : decode prog_3_method_9_code 0 = .ok (.iconst 0, 1) := by decide +kernel
theorem d33_1 : decode prog_3_method_9_code 1 = .ok (.istore_n 1, 1) := by decide +kernel
theorem d33_2 : decode prog_3_method_9_code 2 = .ok (.iload_n 1, 1) := by decide +kernel
theorem d33_3 : decode prog_3_method_9_code 3 = .ok (.aload_n 0, 1) := by decide +kernel
theorem d33_4 : decode prog_3_method_9_code 4 = .ok (.invokevirtual 49, 3) := by decide +kernel
theorem d33_7 : decode prog_3_method_9_code 7 = .ok (.if_icmp .ge 29, 3) := by decide +kernel
theorem d33_10 : decode prog_3_method_9_code 10 = .ok (.aload_n 0, 1) := by decide +kernel
theorem d33_11 : decode prog_3_method_9_code 11 = .ok (.iload_n 1, 1) := by decide +kernel
theorem d33_12 : decode prog_3_method_9_code 12 = .ok (.invokevirtual 75, 3) := by decide +kernel
theorem d33_15 : decode prog_3_method_9_code 15 = .ok (.istore_n 2, 1) := by decide +kernel
theorem d33_16 : decode prog_3_method_9_code 16 = .ok (.iload_n 2, 1) := by decide +kernel
theorem d33_17 : decode prog_3_method_9_code 17 = .ok (.bipush 32, 2) := by decide +kernel
theorem d33_19 : decode prog_3_method_9_code 19 = .ok (.if_icmp .lt 9, 3) := by decide +kernel
theorem d33_22 : decode prog_3_method_9_code 22 = .ok (.iload_n 2, 1) := by decide +kernel
theorem d33_23 : decode prog_3_method_9_code 23 = .ok (.bipush 127, 2) := by decide +kernel
theorem d33_25 : decode prog_3_method_9_code 25 = .ok (.if_icmp .ne 5, 3) := by decide +kernel
theorem d33_28 : decode prog_3_method_9_code 28 = .ok (.iconst 1, 1) := by decide +kernel
theorem d33_29 : decode prog_3_method_9_code 29 = .ok (.ireturn, 1) := by decide +kernel
theorem d33_30 : decode prog_3_method_9_code 30 = .ok (.iinc 1 1, 3) := by decide +kernel
theorem d33_33 : decode prog_3_method_9_code 33 = .ok (.goto (-31), 3) := by decide +kernel
theorem d33_36 : decode prog_3_method_9_code 36 = .ok (.iconst 0, 1) := by decide +kernel
theorem d33_37 : decode prog_3_method_9_code 37 = .ok (.ireturn, 1) := by decide +kernel
theorem pd33 : parseMethodDescriptor "(Ljava/lang/String;)Z" = some ⟨[(.object "java/lang/String")], (some .boolean)⟩ := by decide +kernel
theorem pn33 : plainFor y33 = true := by first | exact plainFor_of_name (by first | (simp [plainName, overriddenIn]; done) | decide +kernel) | decide +kernel | rfl
set_option maxRecDepth 65536 in
set_option maxHeartbeats 40000000 in
theorem con_ctrl (l : Launch) (Z : State) (a0 : Array Value) (hw : ∀ d ∈ tables_1, d.before a0 Z = true) (h0 : Heap) (n0 : Nat) (σ : Sg) (s : Addr) (cs : List Int32) (S : Str Z h0 s cs) (hid : ∀ c ∈ cs, IdC c) (cz : Int32) (hcz : ¬ cz = 0) (O2 : Sta Z Z.heap "java/lang/String" "COMPACT_STRINGS" "Z" (.int cz)) (fm : Value) (rf : fm.isRef = true) (O4 : Sta Z Z.heap "jdk/internal/util/Preconditions" "SIOOBE_FORMATTER" "Ljava/util/function/BiFunction;" fm) :
    Con l Z y33 prog_3_method_9_code 3 ((some .boolean)) ({ frames := 4, cells := 0, slots := 0, locals := 70 } : Room) [] #[(.ref s)] σ h0 n0 (fun v h τ => h0 = h ∧ σ = τ ∧ v = some (.int 0)) := by
  refine Con.of_go pn33 (ls := #[.val (.ref s), .unset, .unset]) (fun m => by first | (simp [entryFrame, mkF, argsToLocals, Value.category]; done) | rfl) ?_
  intro κ D
  have hl := S.2.2
  have loop : ∀ (N i : Nat) (s2 : Slot), cs.length - i = N → i ≤ cs.length → (s2 = .unset ∨ ∃ w, s2 = .val w ∧ w.category = 1) → Go κ σ h0 0 0 2 #[.val (.ref s), .val (.int (Int32.ofNat i)), s2] [] := by
    intro N
    induction N using Nat.strongRecOn with
    | _ N ih =>
      intro i s2 hN hi0 hs2
      refine Go.iloadN D (pc' := 3) d33_2 rfl rfl ?_
      refine Go.aloadN D (pc' := 4) d33_3 rfl rfl rfl ?_
      refine Go.callV D (argsL := []) (rest := [(.int (Int32.ofNat i))]) (pc' := 7) (ce' := 0) (sl' := 0) (con_slen l Z a0 hw h0 n0 σ s cs S cz hcz O2) (hw _ (List.mem_of_getElem? (i := 68) rfl)) (hw _ (List.mem_of_getElem? (i := 69) rfl)) (hw _ (List.mem_of_getElem? (i := 71) rfl)) (hw _ (List.mem_of_getElem? (i := 70) rfl)) (hw _ (List.mem_of_getElem? (i := 13) rfl)) (hw _ (List.mem_of_getElem? (i := 72) rfl)) (nfS (hw _ (List.mem_of_getElem? (i := 71) rfl))) (by decide) S.1.1 d33_4 rfl pd15 rfl rfl rfl (by decide) (W := 1) rfl (by decide) (by decide) (by decide) (by decide) (by decide) ?_
      intro v4 h4 σ4 q4
      obtain ⟨rfl, rfl, rfl⟩ := q4
      show Go κ σ h0 0 0 7 #[.val (.ref s), .val (.int (Int32.ofNat i)), s2] [(.int (Int32.ofNat cs.length)), (.int (Int32.ofNat i))]
      refine Go.icmp D (pc' := 36) (pc2 := 10) d33_7 (by decide) (by decide) rfl ?_ ?_
      · intro (hc7 : ¬ (Int32.ofNat i) < (Int32.ofNat cs.length))
        refine Go.iconst D (pc' := 37) d33_36 rfl (v := (0 : Int32)) rfl ?_
        refine Go.zret D rfl rfl d33_37 (by decide) (by decide) ?_
        exact ⟨rfl, rfl, rfl⟩
      · intro (hc7 : (Int32.ofNat i) < (Int32.ofNat cs.length))
        have hi : i < cs.length := (own_lt (by omega) (by omega)).mp hc7
        refine Go.aloadN D (pc' := 11) d33_10 rfl rfl rfl ?_
        refine Go.iloadN D (pc' := 12) d33_11 rfl rfl ?_
        refine Go.callV D (argsL := [(.int (Int32.ofNat i))]) (rest := []) (pc' := 15) (ce' := 0) (sl' := 0) (con_chAt l Z a0 hw h0 n0 σ s cs S i hi cz hcz O2 fm rf O4) (hw _ (List.mem_of_getElem? (i := 81) rfl)) (hw _ (List.mem_of_getElem? (i := 82) rfl)) (hw _ (List.mem_of_getElem? (i := 84) rfl)) (hw _ (List.mem_of_getElem? (i := 83) rfl)) (hw _ (List.mem_of_getElem? (i := 13) rfl)) (hw _ (List.mem_of_getElem? (i := 85) rfl)) (nfS (hw _ (List.mem_of_getElem? (i := 84) rfl))) (by decide) S.1.1 d33_12 rfl pd18 rfl rfl rfl (by decide) (W := 0) rfl (by decide) (by decide) (by decide) (by decide) (by decide) ?_
        intro v12 h12 σ12 q12
        obtain ⟨rfl, rfl, rfl⟩ := q12
        show Go κ σ h0 0 0 15 #[.val (.ref s), .val (.int (Int32.ofNat i)), s2] [(.int cs[i])]
        refine Go.istoreNU D (pc' := 16) d33_15 rfl rfl hs2 (ls' := #[.val (.ref s), .val (.int (Int32.ofNat i)), .val (.int cs[i])]) rfl ?_
        refine Go.iloadN D (pc' := 17) d33_16 rfl rfl ?_
        refine Go.bipush D (pc' := 19) d33_17 rfl (v := (32 : Int32)) rfl ?_
        refine Go.icmp D (pc' := 28) (pc2 := 22) d33_19 (by decide) (by decide) rfl ?_ ?_
        · intro (hc19 : cs[i] < (32 : Int32))
          exact absurd hc19 (hid _ (List.getElem_mem hi)).1
        · intro (hc19 : ¬ cs[i] < (32 : Int32))
          refine Go.iloadN D (pc' := 23) d33_22 rfl rfl ?_
          refine Go.bipush D (pc' := 25) d33_23 rfl (v := (127 : Int32)) rfl ?_
          refine Go.icmp D (pc' := 30) (pc2 := 28) d33_25 (by decide) (by decide) rfl ?_ ?_
          · intro (hc25 : ¬ cs[i] = (127 : Int32))
            refine Go.iinc D (pc' := 33) d33_30 rfl rfl (d := (1 : Int32)) rfl (ls' := #[.val (.ref s), .val (.int ((Int32.ofNat i) + (1 : Int32))), .val (.int cs[i])]) rfl ?_
            refine Go.goto D (pc' := 2) d33_33 (by decide) (by decide) ?_
            rw [own_succ]
            exact ih (cs.length - (i + 1)) (by omega) (i + 1) _ rfl (by omega) (Or.inr ⟨_, rfl, rfl⟩)
          · intro (hc25 : cs[i] = (127 : Int32))
            exact absurd hc25 (hid _ (List.getElem_mem hi)).2.2
  refine Go.iconst D (pc' := 1) d33_0 rfl (v := (0 : Int32)) rfl ?_
  refine Go.istoreN D (pc' := 2) d33_1 rfl (ls' := #[.val (.ref s), .val (.int (0 : Int32)), .unset]) rfl ?_
  exact loop (cs.length - 0) 0 _ rfl (by omega) (Or.inl rfl)
abbrev y32 : MethodName := ⟨"java/lang/StringCoding", "countPositives", "([BII)I"⟩
theorem d32_0 : decode jdk_123_method_3_code 0 = .ok (.iload_n 1, 1) := by decide +kernel
theorem d32_1 : decode jdk_123_method_3_code 1 = .ok (.iload_n 2, 1) := by decide +kernel
theorem d32_2 : decode jdk_123_method_3_code 2 = .ok (.iadd, 1) := by decide +kernel
theorem d32_3 : decode jdk_123_method_3_code 3 = .ok (.istore_n 3, 1) := by decide +kernel
theorem d32_4 : decode jdk_123_method_3_code 4 = .ok (.iload_n 1, 1) := by decide +kernel
theorem d32_5 : decode jdk_123_method_3_code 5 = .ok (.istore 4, 2) := by decide +kernel
theorem d32_7 : decode jdk_123_method_3_code 7 = .ok (.iload 4, 2) := by decide +kernel
theorem d32_9 : decode jdk_123_method_3_code 9 = .ok (.iload_n 3, 1) := by decide +kernel
theorem d32_10 : decode jdk_123_method_3_code 10 = .ok (.if_icmp .ge 21, 3) := by decide +kernel
theorem d32_13 : decode jdk_123_method_3_code 13 = .ok (.aload_n 0, 1) := by decide +kernel
theorem d32_14 : decode jdk_123_method_3_code 14 = .ok (.iload 4, 2) := by decide +kernel
theorem d32_16 : decode jdk_123_method_3_code 16 = .ok (.baload, 1) := by decide +kernel
theorem d32_17 : decode jdk_123_method_3_code 17 = .ok (.ifCond .ge 8, 3) := by decide +kernel
theorem d32_20 : decode jdk_123_method_3_code 20 = .ok (.iload 4, 2) := by decide +kernel
theorem d32_22 : decode jdk_123_method_3_code 22 = .ok (.iload_n 1, 1) := by decide +kernel
theorem d32_23 : decode jdk_123_method_3_code 23 = .ok (.isub, 1) := by decide +kernel
theorem d32_24 : decode jdk_123_method_3_code 24 = .ok (.ireturn, 1) := by decide +kernel
theorem d32_25 : decode jdk_123_method_3_code 25 = .ok (.iinc 4 1, 3) := by decide +kernel
theorem d32_28 : decode jdk_123_method_3_code 28 = .ok (.goto (-21), 3) := by decide +kernel
theorem d32_31 : decode jdk_123_method_3_code 31 = .ok (.iload_n 2, 1) := by decide +kernel
theorem d32_32 : decode jdk_123_method_3_code 32 = .ok (.ireturn, 1) := by decide +kernel
theorem pd32 : parseMethodDescriptor "([BII)I" = some ⟨[(.array .byte), .int, .int], (some .int)⟩ := by decide +kernel
theorem pn32 : plainFor y32 = true := by first | exact plainFor_of_name (by first | (simp [plainName, overriddenIn]; done) | decide +kernel) | decide +kernel | rfl
set_option maxRecDepth 65536 in
set_option maxHeartbeats 40000000 in
theorem con_cpos (l : Launch) (Z : State) (a0 : Array Value) (hw : ∀ d ∈ tables_1, d.before a0 Z = true) (h0 : Heap) (n0 : Nat) (σ : Sg) (b : Addr) (kb : ClassId) (cs : List Int32) (B : Arv Z h0 b kb .byte (Int32.ofNat cs.length) (bv cs) (.int 0)) (hp : Lat cs) :
    Con l Z y32 jdk_123_method_3_code 5 ((some .int)) ({ frames := 0, cells := 0, slots := 0, locals := 0 } : Room) [] #[(.ref b), (.int (0 : Int32)), (.int (Int32.ofNat cs.length))] σ h0 n0 (fun v h τ => h0 = h ∧ σ = τ ∧ ∃ r, v = some (.int r)) := by
  refine Con.of_go pn32 (ls := #[.val (.ref b), .val (.int (0 : Int32)), .val (.int (Int32.ofNat cs.length)), .unset, .unset]) (fun m => by first | (simp [entryFrame, mkF, argsToLocals, Value.category]; done) | rfl) ?_
  intro κ D
  have hl := hp.2
  have loop : ∀ (N i : Nat), cs.length - i = N → i ≤ cs.length → Go κ σ h0 0 0 7 #[.val (.ref b), .val (.int (0 : Int32)), .val (.int (Int32.ofNat cs.length)), .val (.int (Int32.ofNat cs.length)), .val (.int (Int32.ofNat i))] [] := by
    intro N
    induction N using Nat.strongRecOn with
    | _ N ih =>
      intro i hN hi0
      refine Go.iload D (pc' := 9) d32_7 rfl rfl ?_
      refine Go.iloadN D (pc' := 10) d32_9 rfl rfl ?_
      refine Go.icmp D (pc' := 31) (pc2 := 13) d32_10 (by decide) (by decide) rfl ?_ ?_
      · intro (hc10 : ¬ (Int32.ofNat i) < (Int32.ofNat cs.length))
        refine Go.iloadN D (pc' := 32) d32_31 rfl rfl ?_
        refine Go.iret D rfl d32_32 (by decide) (by decide) ?_
        exact ⟨rfl, rfl, _, rfl⟩
      · intro (hc10 : (Int32.ofNat i) < (Int32.ofNat cs.length))
        have hi : i < cs.length := (own_lt (by omega) (by omega)).mp hc10
        refine Go.aloadN D (pc' := 14) d32_13 rfl rfl rfl ?_
        refine Go.iload D (pc' := 16) d32_14 rfl rfl ?_
        refine Go.baload D (pc' := 17) d32_16 rfl B (own_nn (by omega)) ((own_lt (by omega) (by omega)).mpr hi) (v := .int (cs[i].toInt8.toInt32)) (by rw [own_tn (by omega)]; exact bv_at hi _) ?_
        refine Go.ifc D (pc' := 25) (pc2 := 20) d32_17 (by decide) (by decide) rfl ?_ ?_
        · intro (hc17 : ¬ (cs[i].toInt8.toInt32) < 0)
          refine Go.iinc D (pc' := 28) d32_25 rfl rfl (d := (1 : Int32)) rfl (ls' := #[.val (.ref b), .val (.int (0 : Int32)), .val (.int (Int32.ofNat cs.length)), .val (.int (Int32.ofNat cs.length)), .val (.int ((Int32.ofNat i) + (1 : Int32)))]) rfl ?_
          refine Go.goto D (pc' := 7) d32_28 (by decide) (by decide) ?_
          rw [own_succ]
          exact ih (cs.length - (i + 1)) (by omega) (i + 1) rfl (by omega)
        · intro (hc17 : (cs[i].toInt8.toInt32) < 0)
          refine Go.iload D (pc' := 22) d32_20 rfl rfl ?_
          refine Go.iloadN D (pc' := 23) d32_22 rfl rfl ?_
          refine Go.isub D (pc' := 24) d32_23 rfl  ?_
          refine Go.iret D rfl d32_24 (by decide) (by decide) ?_
          exact ⟨rfl, rfl, _, rfl⟩
  refine Go.iloadN D (pc' := 1) d32_0 rfl rfl ?_
  refine Go.iloadN D (pc' := 2) d32_1 rfl rfl ?_
  refine Go.iadd D (pc' := 3) d32_2 rfl  ?_
  rw [Int32.zero_add]
  refine Go.istoreN D (pc' := 4) d32_3 rfl (ls' := #[.val (.ref b), .val (.int (0 : Int32)), .val (.int (Int32.ofNat cs.length)), .val (.int (Int32.ofNat cs.length)), .unset]) rfl ?_
  refine Go.iloadN D (pc' := 5) d32_4 rfl rfl ?_
  refine Go.istore D (pc' := 7) d32_5 rfl (ls' := #[.val (.ref b), .val (.int (0 : Int32)), .val (.int (Int32.ofNat cs.length)), .val (.int (Int32.ofNat cs.length)), .val (.int (0 : Int32))]) rfl ?_
  exact loop (cs.length - 0) 0 rfl (by omega)
abbrev y31 : MethodName := ⟨"java/lang/StringCoding", "hasNegatives", "([BII)Z"⟩
theorem d31_0 : decode jdk_123_method_2_code 0 = .ok (.aload_n 0, 1) := by decide +kernel
theorem d31_1 : decode jdk_123_method_2_code 1 = .ok (.iload_n 1, 1) := by decide +kernel
theorem d31_2 : decode jdk_123_method_2_code 2 = .ok (.iload_n 2, 1) := by decide +kernel
theorem d31_3 : decode jdk_123_method_2_code 3 = .ok (.invokestatic 7, 3) := by decide +kernel
theorem d31_6 : decode jdk_123_method_2_code 6 = .ok (.iload_n 2, 1) := by decide +kernel
theorem d31_7 : decode jdk_123_method_2_code 7 = .ok (.if_icmp .eq 7, 3) := by decide +kernel
theorem d31_10 : decode jdk_123_method_2_code 10 = .ok (.iconst 1, 1) := by decide +kernel
theorem d31_11 : decode jdk_123_method_2_code 11 = .ok (.goto 4, 3) := by decide +kernel
theorem d31_14 : decode jdk_123_method_2_code 14 = .ok (.iconst 0, 1) := by decide +kernel
theorem d31_15 : decode jdk_123_method_2_code 15 = .ok (.ireturn, 1) := by decide +kernel
theorem pd31 : parseMethodDescriptor "([BII)Z" = some ⟨[(.array .byte), .int, .int], (some .boolean)⟩ := by decide +kernel
theorem pn31 : plainFor y31 = true := by first | exact plainFor_of_name (by first | (simp [plainName, overriddenIn]; done) | decide +kernel) | decide +kernel | rfl
set_option maxRecDepth 65536 in
set_option maxHeartbeats 40000000 in
theorem con_hneg (l : Launch) (Z : State) (a0 : Array Value) (hw : ∀ d ∈ tables_1, d.before a0 Z = true) (h0 : Heap) (n0 : Nat) (σ : Sg) (b : Addr) (kb : ClassId) (cs : List Int32) (B : Arv Z h0 b kb .byte (Int32.ofNat cs.length) (bv cs) (.int 0)) (hp : Lat cs) :
    Con l Z y31 jdk_123_method_2_code 3 ((some .boolean)) ({ frames := 1, cells := 0, slots := 0, locals := 20 } : Room) [] #[(.ref b), (.int (0 : Int32)), (.int (Int32.ofNat cs.length))] σ h0 n0 (fun v h τ => h0 = h ∧ σ = τ ∧ ∃ r, v = some (.int r)) := by
  refine Con.of_go pn31 (ls := #[.val (.ref b), .val (.int (0 : Int32)), .val (.int (Int32.ofNat cs.length))]) (fun m => by first | (simp [entryFrame, mkF, argsToLocals, Value.category]; done) | rfl) ?_
  intro κ D
  refine Go.aloadN D (pc' := 1) d31_0 rfl rfl rfl ?_
  refine Go.iloadN D (pc' := 2) d31_1 rfl rfl ?_
  refine Go.iloadN D (pc' := 3) d31_2 rfl rfl ?_
  refine Go.callS D (argsL := [(.ref b), (.int (0 : Int32)), (.int (Int32.ofNat cs.length))]) (rest := []) (pc' := 6) (ce' := 0) (sl' := 0) (con_cpos l Z a0 hw h0 n0 σ b kb cs B hp) (hw _ (List.mem_of_getElem? (i := 144) rfl)) (hw _ (List.mem_of_getElem? (i := 145) rfl)) (hw _ (List.mem_of_getElem? (i := 142) rfl)) (hw _ (List.mem_of_getElem? (i := 146) rfl)) (by decide) d31_3 rfl pd32 rfl rfl rfl (by decide) (W := 0) rfl (by decide) (by decide) (by decide) (by decide) (by decide) ?_
  intro v3 h3 σ3 q3
  obtain ⟨rfl, rfl, r, rfl⟩ := q3
  show Go κ σ h0 0 0 6 #[.val (.ref b), .val (.int (0 : Int32)), .val (.int (Int32.ofNat cs.length))] [(.int r)]
  refine Go.iloadN D (pc' := 7) d31_6 rfl rfl ?_
  refine Go.icmp D (pc' := 14) (pc2 := 10) d31_7 (by decide) (by decide) rfl ?_ ?_
  · intro (hc7 : r = (Int32.ofNat cs.length))
    refine Go.iconst D (pc' := 15) d31_14 rfl (v := (0 : Int32)) rfl ?_
    refine Go.zret D rfl rfl d31_15 (by decide) (by decide) ?_
    exact ⟨rfl, rfl, _, rfl⟩
  · intro (hc7 : ¬ r = (Int32.ofNat cs.length))
    refine Go.iconst D (pc' := 11) d31_10 rfl (v := (1 : Int32)) rfl ?_
    refine Go.goto D (pc' := 15) d31_11 (by decide) (by decide) ?_
    refine Go.zret D rfl rfl d31_15 (by decide) (by decide) ?_
    exact ⟨rfl, rfl, _, rfl⟩
abbrev y30 : MethodName := ⟨"java/lang/String", "encodeUTF8", "(B[BZ)[B"⟩
theorem d30_0 : decode jdk_42_method_46_code 0 = .ok (.iload_n 0, 1) := by decide +kernel
theorem d30_1 : decode jdk_42_method_46_code 1 = .ok (.iconst 1, 1) := by decide +kernel
theorem d30_2 : decode jdk_42_method_46_code 2 = .ok (.if_icmp .ne 9, 3) := by decide +kernel
theorem d30_5 : decode jdk_42_method_46_code 5 = .ok (.aload_n 1, 1) := by decide +kernel
theorem d30_6 : decode jdk_42_method_46_code 6 = .ok (.iload_n 2, 1) := by decide +kernel
theorem d30_7 : decode jdk_42_method_46_code 7 = .ok (.invokestatic 473, 3) := by decide +kernel
theorem d30_10 : decode jdk_42_method_46_code 10 = .ok (.areturn, 1) := by decide +kernel
theorem d30_11 : decode jdk_42_method_46_code 11 = .ok (.aload_n 1, 1) := by decide +kernel
theorem d30_12 : decode jdk_42_method_46_code 12 = .ok (.iconst 0, 1) := by decide +kernel
theorem d30_13 : decode jdk_42_method_46_code 13 = .ok (.aload_n 1, 1) := by decide +kernel
theorem d30_14 : decode jdk_42_method_46_code 14 = .ok (.arraylength, 1) := by decide +kernel
theorem d30_15 : decode jdk_42_method_46_code 15 = .ok (.invokestatic 128, 3) := by decide +kernel
theorem d30_18 : decode jdk_42_method_46_code 18 = .ok (.ifCond .ne 11, 3) := by decide +kernel
theorem d30_21 : decode jdk_42_method_46_code 21 = .ok (.aload_n 1, 1) := by decide +kernel
theorem d30_22 : decode jdk_42_method_46_code 22 = .ok (.invokevirtual 279, 3) := by decide +kernel
theorem d30_25 : decode jdk_42_method_46_code 25 = .ok (.checkcast 280, 3) := by decide +kernel
theorem d30_28 : decode jdk_42_method_46_code 28 = .ok (.areturn, 1) := by decide +kernel
theorem d30_29 : decode jdk_42_method_46_code 29 = .ok (.iconst 0, 1) := by decide +kernel
theorem d30_30 : decode jdk_42_method_46_code 30 = .ok (.istore_n 3, 1) := by decide +kernel
theorem d30_31 : decode jdk_42_method_46_code 31 = .ok (.aload_n 1, 1) := by decide +kernel
theorem d30_32 : decode jdk_42_method_46_code 32 = .ok (.arraylength, 1) := by decide +kernel
theorem d30_33 : decode jdk_42_method_46_code 33 = .ok (.invokestatic 60, 3) := by decide +kernel
theorem d30_36 : decode jdk_42_method_46_code 36 = .ok (.astore 4, 2) := by decide +kernel
theorem d30_38 : decode jdk_42_method_46_code 38 = .ok (.aload_n 1, 1) := by decide +kernel
theorem d30_39 : decode jdk_42_method_46_code 39 = .ok (.astore 5, 2) := by decide +kernel
theorem d30_41 : decode jdk_42_method_46_code 41 = .ok (.aload 5, 2) := by decide +kernel
theorem d30_43 : decode jdk_42_method_46_code 43 = .ok (.arraylength, 1) := by decide +kernel
theorem d30_44 : decode jdk_42_method_46_code 44 = .ok (.istore 6, 2) := by decide +kernel
theorem d30_46 : decode jdk_42_method_46_code 46 = .ok (.iconst 0, 1) := by decide +kernel
theorem d30_47 : decode jdk_42_method_46_code 47 = .ok (.istore 7, 2) := by decide +kernel
theorem d30_49 : decode jdk_42_method_46_code 49 = .ok (.iload 7, 2) := by decide +kernel
theorem d30_51 : decode jdk_42_method_46_code 51 = .ok (.iload 6, 2) := by decide +kernel
theorem d30_53 : decode jdk_42_method_46_code 53 = .ok (.if_icmp .ge 71, 3) := by decide +kernel
theorem d30_56 : decode jdk_42_method_46_code 56 = .ok (.aload 5, 2) := by decide +kernel
theorem d30_58 : decode jdk_42_method_46_code 58 = .ok (.iload 7, 2) := by decide +kernel
theorem d30_60 : decode jdk_42_method_46_code 60 = .ok (.baload, 1) := by decide +kernel
theorem d30_61 : decode jdk_42_method_46_code 61 = .ok (.istore 8, 2) := by decide +kernel
theorem d30_63 : decode jdk_42_method_46_code 63 = .ok (.iload 8, 2) := by decide +kernel
theorem d30_65 : decode jdk_42_method_46_code 65 = .ok (.ifCond .ge 44, 3) := by decide +kernel
theorem d30_68 : decode jdk_42_method_46_code 68 = .ok (.aload 4, 2) := by decide +kernel
theorem d30_70 : decode jdk_42_method_46_code 70 = .ok (.iload_n 3, 1) := by decide +kernel
theorem d30_71 : decode jdk_42_method_46_code 71 = .ok (.iinc 3 1, 3) := by decide +kernel
theorem d30_74 : decode jdk_42_method_46_code 74 = .ok (.sipush 192, 3) := by decide +kernel
theorem d30_77 : decode jdk_42_method_46_code 77 = .ok (.iload 8, 2) := by decide +kernel
theorem d30_79 : decode jdk_42_method_46_code 79 = .ok (.sipush 255, 3) := by decide +kernel
theorem d30_82 : decode jdk_42_method_46_code 82 = .ok (.iand, 1) := by decide +kernel
theorem d30_83 : decode jdk_42_method_46_code 83 = .ok (.bipush 6, 2) := by decide +kernel
theorem d30_85 : decode jdk_42_method_46_code 85 = .ok (.ishr, 1) := by decide +kernel
theorem d30_86 : decode jdk_42_method_46_code 86 = .ok (.ior, 1) := by decide +kernel
theorem d30_87 : decode jdk_42_method_46_code 87 = .ok (.i2b, 1) := by decide +kernel
theorem d30_88 : decode jdk_42_method_46_code 88 = .ok (.bastore, 1) := by decide +kernel
theorem d30_89 : decode jdk_42_method_46_code 89 = .ok (.aload 4, 2) := by decide +kernel
theorem d30_91 : decode jdk_42_method_46_code 91 = .ok (.iload_n 3, 1) := by decide +kernel
theorem d30_92 : decode jdk_42_method_46_code 92 = .ok (.iinc 3 1, 3) := by decide +kernel
theorem d30_95 : decode jdk_42_method_46_code 95 = .ok (.sipush 128, 3) := by decide +kernel
theorem d30_98 : decode jdk_42_method_46_code 98 = .ok (.iload 8, 2) := by decide +kernel
theorem d30_100 : decode jdk_42_method_46_code 100 = .ok (.bipush 63, 2) := by decide +kernel
theorem d30_102 : decode jdk_42_method_46_code 102 = .ok (.iand, 1) := by decide +kernel
theorem d30_103 : decode jdk_42_method_46_code 103 = .ok (.ior, 1) := by decide +kernel
theorem d30_104 : decode jdk_42_method_46_code 104 = .ok (.i2b, 1) := by decide +kernel
theorem d30_105 : decode jdk_42_method_46_code 105 = .ok (.bastore, 1) := by decide +kernel
theorem d30_106 : decode jdk_42_method_46_code 106 = .ok (.goto 12, 3) := by decide +kernel
theorem d30_109 : decode jdk_42_method_46_code 109 = .ok (.aload 4, 2) := by decide +kernel
theorem d30_111 : decode jdk_42_method_46_code 111 = .ok (.iload_n 3, 1) := by decide +kernel
theorem d30_112 : decode jdk_42_method_46_code 112 = .ok (.iinc 3 1, 3) := by decide +kernel
theorem d30_115 : decode jdk_42_method_46_code 115 = .ok (.iload 8, 2) := by decide +kernel
theorem d30_117 : decode jdk_42_method_46_code 117 = .ok (.bastore, 1) := by decide +kernel
theorem d30_118 : decode jdk_42_method_46_code 118 = .ok (.iinc 7 1, 3) := by decide +kernel
theorem d30_121 : decode jdk_42_method_46_code 121 = .ok (.goto (-72), 3) := by decide +kernel
theorem d30_124 : decode jdk_42_method_46_code 124 = .ok (.iload_n 3, 1) := by decide +kernel
theorem d30_125 : decode jdk_42_method_46_code 125 = .ok (.aload 4, 2) := by decide +kernel
theorem d30_127 : decode jdk_42_method_46_code 127 = .ok (.arraylength, 1) := by decide +kernel
theorem d30_128 : decode jdk_42_method_46_code 128 = .ok (.if_icmp .ne 6, 3) := by decide +kernel
theorem d30_131 : decode jdk_42_method_46_code 131 = .ok (.aload 4, 2) := by decide +kernel
theorem d30_133 : decode jdk_42_method_46_code 133 = .ok (.areturn, 1) := by decide +kernel
theorem d30_134 : decode jdk_42_method_46_code 134 = .ok (.aload 4, 2) := by decide +kernel
theorem d30_136 : decode jdk_42_method_46_code 136 = .ok (.iload_n 3, 1) := by decide +kernel
theorem d30_137 : decode jdk_42_method_46_code 137 = .ok (.invokestatic 102, 3) := by decide +kernel
theorem d30_140 : decode jdk_42_method_46_code 140 = .ok (.areturn, 1) := by decide +kernel
theorem pd30 : parseMethodDescriptor "(B[BZ)[B" = some ⟨[.byte, (.array .byte), .boolean], (some (.array .byte))⟩ := by decide +kernel
theorem pn30 : plainFor y30 = true := by first | exact plainFor_of_name (by first | (simp [plainName, overriddenIn]; done) | decide +kernel) | decide +kernel | rfl
set_option maxRecDepth 65536 in
set_option maxHeartbeats 40000000 in
theorem con_eu8 (l : Launch) (Z : State) (a0 : Array Value) (hw : ∀ d ∈ tables_1, d.before a0 Z = true) (h0 : Heap) (n0 : Nat) (Z0 : n0 ≤ h0.size) (σ : Sg) (b : Addr) (kb : ClassId) (cs : List Int32) (B : Arv Z h0 b kb .byte (Int32.ofNat cs.length) (bv cs) (.int 0)) (hp : Lat cs) (X : Exa Z h0 b "[B") (h4 : cs.length ≤ 4) :
    Con l Z y30 jdk_42_method_46_code 9 ((some (.array .byte))) ({ frames := 2, cells := 2, slots := 16, locals := 80 } : Room) [] #[(.int (0 : Int32)), (.ref b), (.int (1 : Int32))] σ h0 n0 (fun v h τ => σ = τ ∧ ∃ d kd n vs, v = some (.ref d) ∧ h0.size ≤ d ∧ Ext h0 h ∧ Arv Z h d kd .byte (Int32.ofNat n) vs (.int 0) ∧ cs.length ≤ n ∧ n ≤ 2 * cs.length) := by
  refine Con.of_go pn30 (ls := #[.val (.int (0 : Int32)), .val (.ref b), .val (.int (1 : Int32)), .unset, .unset, .unset, .unset, .unset, .unset]) (fun m => by first | (simp [entryFrame, mkF, argsToLocals, Value.category]; done) | rfl) ?_
  intro κ D
  have hl := hp.2
  refine Go.iloadN D (pc' := 1) d30_0 rfl rfl ?_
  refine Go.iconst D (pc' := 2) d30_1 rfl (v := (1 : Int32)) rfl ?_
  refine Go.icmp D (pc' := 11) (pc2 := 5) d30_2 (by decide) (by decide) rfl (fun _ => ?_) (fun (hc : (0 : Int32) = (1 : Int32)) => absurd hc (by decide))
  refine Go.aloadN D (pc' := 12) d30_11 rfl rfl rfl ?_
  refine Go.iconst D (pc' := 13) d30_12 rfl (v := (0 : Int32)) rfl ?_
  refine Go.aloadN D (pc' := 14) d30_13 rfl rfl rfl ?_
  refine Go.alen D (pc' := 15) d30_14 rfl B ?_
  refine Go.callS D (argsL := [(.ref b), (.int (0 : Int32)), (.int (Int32.ofNat cs.length))]) (rest := []) (pc' := 18) (ce' := 0) (sl' := 0) (con_hneg l Z a0 hw h0 n0 σ b kb cs B hp) (hw _ (List.mem_of_getElem? (i := 140) rfl)) (hw _ (List.mem_of_getElem? (i := 141) rfl)) (hw _ (List.mem_of_getElem? (i := 142) rfl)) (hw _ (List.mem_of_getElem? (i := 143) rfl)) (by decide) d30_15 rfl pd31 rfl rfl rfl (by decide) (W := 0) rfl (by decide) (by decide) (by decide) (by decide) (by decide) ?_
  intro v15 h15 σ15 q15
  obtain ⟨rfl, rfl, r, rfl⟩ := q15
  show Go κ σ h0 0 0 18 #[.val (.int (0 : Int32)), .val (.ref b), .val (.int (1 : Int32)), .unset, .unset, .unset, .unset, .unset, .unset] [(.int r)]
  refine Go.ifc D (pc' := 29) (pc2 := 21) d30_18 (by decide) (by decide) rfl ?_ ?_
  · intro (hc18 : ¬ r = 0)
    refine Go.iconst D (pc' := 30) d30_29 rfl (v := (0 : Int32)) rfl ?_
    refine Go.istoreN D (pc' := 31) d30_30 rfl (ls' := #[.val (.int (0 : Int32)), .val (.ref b), .val (.int (1 : Int32)), .val (.int (0 : Int32)), .unset, .unset, .unset, .unset, .unset]) rfl ?_
    refine Go.aloadN D (pc' := 32) d30_31 rfl rfl rfl ?_
    refine Go.alen D (pc' := 33) d30_32 rfl B ?_
    refine Go.callS D (argsL := [(.int (Int32.ofNat cs.length))]) (rest := []) (pc' := 36) (ce' := 1) (sl' := 8) (con_nbf l Z a0 hw h0 n0 σ cs.length h4) (hw _ (List.mem_of_getElem? (i := 247) rfl)) (hw _ (List.mem_of_getElem? (i := 185) rfl)) (hw _ (List.mem_of_getElem? (i := 28) rfl)) (hw _ (List.mem_of_getElem? (i := 186) rfl)) (by decide) d30_33 rfl pd37 rfl rfl rfl (by decide) (W := 0) rfl (by decide) (by decide) (by decide) (by decide) (by decide) ?_
    intro v33 h1 σ33 q33
    obtain ⟨rfl, d, kd, rfl, gd, E1, D1⟩ := q33
    have gd' : n0 ≤ d := Nat.le_trans Z0 gd
    have nbd : b ≠ d := own_ne (by have := own_ltn B.lt; omega)
    show Go κ σ h1 1 8 36 #[.val (.int (0 : Int32)), .val (.ref b), .val (.int (1 : Int32)), .val (.int (0 : Int32)), .unset, .unset, .unset, .unset, .unset] [(.ref d)]
    refine Go.astore D (pc' := 38) d30_36 rfl rfl (ls' := #[.val (.int (0 : Int32)), .val (.ref b), .val (.int (1 : Int32)), .val (.int (0 : Int32)), .val (.ref d), .unset, .unset, .unset, .unset]) rfl ?_
    refine Go.aloadN D (pc' := 39) d30_38 rfl rfl rfl ?_
    refine Go.astore D (pc' := 41) d30_39 rfl rfl (ls' := #[.val (.int (0 : Int32)), .val (.ref b), .val (.int (1 : Int32)), .val (.int (0 : Int32)), .val (.ref d), .val (.ref b), .unset, .unset, .unset]) rfl ?_
    refine Go.aload D (pc' := 43) d30_41 rfl rfl rfl ?_
    refine Go.alen D (pc' := 44) d30_43 rfl (B.ext E1) ?_
    refine Go.istore D (pc' := 46) d30_44 rfl (ls' := #[.val (.int (0 : Int32)), .val (.ref b), .val (.int (1 : Int32)), .val (.int (0 : Int32)), .val (.ref d), .val (.ref b), .val (.int (Int32.ofNat cs.length)), .unset, .unset]) rfl ?_
    have loop : ∀ (N i p : Nat) (h : Heap) (vs : List Value) (s8 : Slot), cs.length - i = N → i ≤ cs.length → i ≤ p → p ≤ 2 * i → vs.length = 2 * cs.length → Keep h1 h [d] → Arv Z h d kd .byte (Int32.ofNat (2 * cs.length)) vs (.int 0) → (s8 = .unset ∨ ∃ w, s8 = .val w ∧ w.category = 1) → Go κ σ h 1 8 49 #[.val (.int (0 : Int32)), .val (.ref b), .val (.int (1 : Int32)), .val (.int (Int32.ofNat p)), .val (.ref d), .val (.ref b), .val (.int (Int32.ofNat cs.length)), .val (.int (Int32.ofNat i)), s8] [] := by
      intro N
      induction N using Nat.strongRecOn with
      | _ N ih =>
        intro i p h vs s8 hN hi0 q1 q2 hvl K V hs8
        refine Go.iload D (pc' := 51) d30_49 rfl rfl ?_
        refine Go.iload D (pc' := 53) d30_51 rfl rfl ?_
        refine Go.icmp D (pc' := 124) (pc2 := 56) d30_53 (by decide) (by decide) rfl ?_ ?_
        · intro (hc53 : ¬ (Int32.ofNat i) < (Int32.ofNat cs.length))
          have hi : i = cs.length := by
            have : ¬ i < cs.length := fun q => hc53 ((own_lt (by omega) (by omega)).mpr q)
            omega
          have zz : n0 ≤ h.size := Nat.le_trans (Nat.le_trans Z0 E1.1) K.1
          have EE := E1.keepN K (by omega)
          refine Go.iloadN D (pc' := 125) d30_124 rfl rfl ?_
          refine Go.aload D (pc' := 127) d30_125 rfl rfl rfl ?_
          refine Go.alen D (pc' := 128) d30_127 rfl V ?_
          refine Go.icmp D (pc' := 134) (pc2 := 131) d30_128 (by decide) (by decide) rfl ?_ ?_
          · intro (hc128 : ¬ (Int32.ofNat p) = (Int32.ofNat (2 * cs.length)))
            refine Go.aload D (pc' := 136) d30_134 rfl rfl rfl ?_
            refine Go.iloadN D (pc' := 137) d30_136 rfl rfl ?_
            have hpl : p < 2 * cs.length := by
              rcases Nat.lt_or_eq_of_le (show p ≤ 2 * cs.length by omega) with q | q
              · exact q
              · exact absurd (by rw [q]) hc128
            refine Go.callS D (argsL := [(.ref d), (.int (Int32.ofNat p))]) (rest := []) (pc' := 140) (ce' := 2) (sl' := 16) (con_cpB l Z a0 hw h n0 zz σ d kd (2 * cs.length) p vs V hpl (by omega)) (hw _ (List.mem_of_getElem? (i := 235) rfl)) (hw _ (List.mem_of_getElem? (i := 236) rfl)) (hw _ (List.mem_of_getElem? (i := 237) rfl)) (hw _ (List.mem_of_getElem? (i := 238) rfl)) (by decide) d30_137 rfl pd50 rfl rfl rfl (by decide) (W := 0) rfl (by decide) (by decide) (by decide) (by decide) (by decide) ?_
            intro v137 h137 σ137 q137
            obtain ⟨rfl, d2, k2, vs2, rfl, g2, E2, V2⟩ := q137
            show Go κ σ h137 2 16 140 #[.val (.int (0 : Int32)), .val (.ref b), .val (.int (1 : Int32)), .val (.int (Int32.ofNat p)), .val (.ref d), .val (.ref b), .val (.int (Int32.ofNat cs.length)), .val (.int (Int32.ofNat i)), s8] [(.ref d2)]
            refine Go.aret D rfl rfl rfl d30_140 (by decide) (by decide) ?_
            exact ⟨rfl, d2, k2, p, vs2, rfl, Nat.le_trans EE.1 g2, EE.tr E2, V2, by omega, by omega⟩
          · intro (hc128 : (Int32.ofNat p) = (Int32.ofNat (2 * cs.length)))
            refine Go.aload D (pc' := 133) d30_131 rfl rfl rfl ?_
            refine Go.aret D rfl rfl rfl d30_133 (by decide) (by decide) ?_
            exact ⟨rfl, d, kd, 2 * cs.length, vs, rfl, gd, EE, V, by omega, by omega⟩
        · intro (hc53 : (Int32.ofNat i) < (Int32.ofNat cs.length))
          have hi : i < cs.length := (own_lt (by omega) (by omega)).mp hc53
          refine Go.aload D (pc' := 58) d30_56 rfl rfl rfl ?_
          refine Go.iload D (pc' := 60) d30_58 rfl rfl ?_
          refine Go.baload D (pc' := 61) d30_60 rfl ((B.ext E1).keep K (nin1 nbd)) (own_nn (by omega)) ((own_lt (by omega) (by omega)).mpr hi) (v := .int cs[i].toInt8.toInt32) (by rw [own_tn (by omega)]; exact bv_at hi _) ?_
          refine Go.istoreU D (pc' := 63) d30_61 rfl rfl hs8 (ls' := #[.val (.int (0 : Int32)), .val (.ref b), .val (.int (1 : Int32)), .val (.int (Int32.ofNat p)), .val (.ref d), .val (.ref b), .val (.int (Int32.ofNat cs.length)), .val (.int (Int32.ofNat i)), .val (.int cs[i].toInt8.toInt32)]) rfl ?_
          refine Go.iload D (pc' := 65) d30_63 rfl rfl ?_
          refine Go.ifc D (pc' := 109) (pc2 := 68) d30_65 (by decide) (by decide) rfl ?_ ?_
          · intro (hc65 : ¬ cs[i].toInt8.toInt32 < 0)
            refine Go.aload D (pc' := 111) d30_109 rfl rfl rfl ?_
            refine Go.iloadN D (pc' := 112) d30_111 rfl rfl ?_
            refine Go.iinc D (pc' := 115) d30_112 rfl rfl (d := (1 : Int32)) rfl (ls' := #[.val (.int (0 : Int32)), .val (.ref b), .val (.int (1 : Int32)), .val (.int ((Int32.ofNat p) + (1 : Int32))), .val (.ref d), .val (.ref b), .val (.int (Int32.ofNat cs.length)), .val (.int (Int32.ofNat i)), .val (.int cs[i].toInt8.toInt32)]) rfl ?_
            rw [own_succ]
            refine Go.iload D (pc' := 117) d30_115 rfl rfl ?_
            refine Go.bastore D (pc' := 118) (i := p) d30_117 rfl V (own_nn (by omega)) ((own_lt (by omega) (by omega)).mpr (by omega)) (own_tn (by omega)) (by omega) gd' rfl ?_
            intro h117 K117 V117
            refine Go.iinc D (pc' := 121) d30_118 rfl rfl (d := (1 : Int32)) rfl (ls' := #[.val (.int (0 : Int32)), .val (.ref b), .val (.int (1 : Int32)), .val (.int (Int32.ofNat (p + 1))), .val (.ref d), .val (.ref b), .val (.int (Int32.ofNat cs.length)), .val (.int ((Int32.ofNat i) + (1 : Int32))), .val (.int cs[i].toInt8.toInt32)]) rfl ?_
            refine Go.goto D (pc' := 49) d30_121 (by decide) (by decide) ?_
            rw [own_succ]
            exact ih (cs.length - (i + 1)) (by omega) (i + 1) (p + 1) h117 _ _ rfl (by omega) (by omega) (by omega) (by rw [List.length_set]; exact hvl) (K.trans K117 (fun x hx => Or.inl hx)) V117 (Or.inr ⟨_, rfl, rfl⟩)
          · intro (hc65 : cs[i].toInt8.toInt32 < 0)
            refine Go.aload D (pc' := 70) d30_68 rfl rfl rfl ?_
            refine Go.iloadN D (pc' := 71) d30_70 rfl rfl ?_
            refine Go.iinc D (pc' := 74) d30_71 rfl rfl (d := (1 : Int32)) rfl (ls' := #[.val (.int (0 : Int32)), .val (.ref b), .val (.int (1 : Int32)), .val (.int ((Int32.ofNat p) + (1 : Int32))), .val (.ref d), .val (.ref b), .val (.int (Int32.ofNat cs.length)), .val (.int (Int32.ofNat i)), .val (.int cs[i].toInt8.toInt32)]) rfl ?_
            rw [own_succ]
            refine Go.sipush D (pc' := 77) d30_74 rfl (v := (192 : Int32)) rfl ?_
            refine Go.iload D (pc' := 79) d30_77 rfl rfl ?_
            refine Go.sipush D (pc' := 82) d30_79 rfl (v := (255 : Int32)) rfl ?_
            refine Go.iand D (pc' := 83) d30_82 rfl  ?_
            refine Go.bipush D (pc' := 85) d30_83 rfl (v := (6 : Int32)) rfl ?_
            refine Go.ishr D (pc' := 86) d30_85 rfl  ?_
            refine Go.ior D (pc' := 87) d30_86 rfl  ?_
            refine Go.i2b D (pc' := 88) d30_87 rfl  ?_
            refine Go.bastore D (pc' := 89) (i := p) d30_88 rfl V (own_nn (by omega)) ((own_lt (by omega) (by omega)).mpr (by omega)) (own_tn (by omega)) (by omega) gd' rfl ?_
            intro h88 K88 V88
            refine Go.aload D (pc' := 91) d30_89 rfl rfl rfl ?_
            refine Go.iloadN D (pc' := 92) d30_91 rfl rfl ?_
            refine Go.iinc D (pc' := 95) d30_92 rfl rfl (d := (1 : Int32)) rfl (ls' := #[.val (.int (0 : Int32)), .val (.ref b), .val (.int (1 : Int32)), .val (.int ((Int32.ofNat (p + 1)) + (1 : Int32))), .val (.ref d), .val (.ref b), .val (.int (Int32.ofNat cs.length)), .val (.int (Int32.ofNat i)), .val (.int cs[i].toInt8.toInt32)]) rfl ?_
            rw [own_succ]
            refine Go.sipush D (pc' := 98) d30_95 rfl (v := (128 : Int32)) rfl ?_
            refine Go.iload D (pc' := 100) d30_98 rfl rfl ?_
            refine Go.bipush D (pc' := 102) d30_100 rfl (v := (63 : Int32)) rfl ?_
            refine Go.iand D (pc' := 103) d30_102 rfl  ?_
            refine Go.ior D (pc' := 104) d30_103 rfl  ?_
            refine Go.i2b D (pc' := 105) d30_104 rfl  ?_
            refine Go.bastore D (pc' := 106) (i := (p + 1)) d30_105 rfl V88 (own_nn (by omega)) ((own_lt (by omega) (by omega)).mpr (by omega)) (own_tn (by omega)) (by rw [List.length_set]; omega) gd' rfl ?_
            intro h105 K105 V105
            refine Go.goto D (pc' := 118) d30_106 (by decide) (by decide) ?_
            refine Go.iinc D (pc' := 121) d30_118 rfl rfl (d := (1 : Int32)) rfl (ls' := #[.val (.int (0 : Int32)), .val (.ref b), .val (.int (1 : Int32)), .val (.int (Int32.ofNat (p + 1 + 1))), .val (.ref d), .val (.ref b), .val (.int (Int32.ofNat cs.length)), .val (.int ((Int32.ofNat i) + (1 : Int32))), .val (.int cs[i].toInt8.toInt32)]) rfl ?_
            refine Go.goto D (pc' := 49) d30_121 (by decide) (by decide) ?_
            rw [own_succ]
            exact ih (cs.length - (i + 1)) (by omega) (i + 1) (p + 1 + 1) h105 _ _ rfl (by omega) (by omega) (by omega) (by rw [List.length_set, List.length_set]; exact hvl) ((K.trans K88 (fun x hx => Or.inl hx)).trans K105 (fun x hx => Or.inl hx)) V105 (Or.inr ⟨_, rfl, rfl⟩)
    refine Go.iconst D (pc' := 47) d30_46 rfl (v := (0 : Int32)) rfl ?_
    refine Go.istore D (pc' := 49) d30_47 rfl (ls' := #[.val (.int (0 : Int32)), .val (.ref b), .val (.int (1 : Int32)), .val (.int (0 : Int32)), .val (.ref d), .val (.ref b), .val (.int (Int32.ofNat cs.length)), .val (.int (0 : Int32)), .unset]) rfl ?_
    exact loop (cs.length - 0) 0 0 h1 _ _ rfl (by omega) (by omega) (by omega) (by simp) (Keep.refl _ _) D1 (Or.inl rfl)
  · intro (hc18 : r = 0)
    refine Go.aloadN D (pc' := 22) d30_21 rfl rfl rfl ?_
    refine Go.cloneV D (pc' := 25) (ad := "[B") (cap := 8) (ce' := 1) (sl' := 8) (hw _ (List.mem_of_getElem? (i := 147) rfl)) (hw _ (List.mem_of_getElem? (i := 148) rfl)) (hw _ (List.mem_of_getElem? (i := 152) rfl)) (hw _ (List.mem_of_getElem? (i := 150) rfl)) (hw _ (List.mem_of_getElem? (i := 151) rfl)) (hw _ (List.mem_of_getElem? (i := 153) rfl)) d30_22 rfl rfl B X (by decide) (W := 0) rfl (by decide) (by rw [own_tn (by omega)]; omega) rfl rfl (by decide) (by decide) ?_
    intro h1 d gd E1 D1 X1
    refine Go.castY D (pc' := 28) (hw _ (List.mem_of_getElem? (i := 154) rfl)) d30_25 rfl (Ins.self X1) ?_
    refine Go.aret D rfl rfl rfl d30_28 (by decide) (by decide) ?_
    exact ⟨rfl, d, kb, cs.length, _, rfl, by omega, E1, D1, by omega, by omega⟩
abbrev y29 : MethodName := ⟨"java/lang/String", "encode", "(Ljava/nio/charset/Charset;B[B)[B"⟩
theorem d29_0 : decode jdk_42_method_18_code 0 = .ok (.aload_n 0, 1) := by decide +kernel
theorem d29_1 : decode jdk_42_method_18_code 1 = .ok (.getstatic 86, 3) := by decide +kernel
theorem d29_4 : decode jdk_42_method_18_code 4 = .ok (.if_acmp .ne 10, 3) := by decide +kernel
theorem d29_7 : decode jdk_42_method_18_code 7 = .ok (.iload_n 1, 1) := by decide +kernel
theorem d29_8 : decode jdk_42_method_18_code 8 = .ok (.aload_n 2, 1) := by decide +kernel
theorem d29_9 : decode jdk_42_method_18_code 9 = .ok (.iconst 1, 1) := by decide +kernel
theorem d29_10 : decode jdk_42_method_18_code 10 = .ok (.invokestatic 252, 3) := by decide +kernel
theorem d29_13 : decode jdk_42_method_18_code 13 = .ok (.areturn, 1) := by decide +kernel
theorem d29_14 : decode jdk_42_method_18_code 14 = .ok (.aload_n 0, 1) := by decide +kernel
theorem d29_15 : decode jdk_42_method_18_code 15 = .ok (.getstatic 116, 3) := by decide +kernel
theorem d29_18 : decode jdk_42_method_18_code 18 = .ok (.if_acmp .ne 9, 3) := by decide +kernel
theorem d29_21 : decode jdk_42_method_18_code 21 = .ok (.iload_n 1, 1) := by decide +kernel
theorem d29_22 : decode jdk_42_method_18_code 22 = .ok (.aload_n 2, 1) := by decide +kernel
theorem d29_23 : decode jdk_42_method_18_code 23 = .ok (.invokestatic 256, 3) := by decide +kernel
theorem d29_26 : decode jdk_42_method_18_code 26 = .ok (.areturn, 1) := by decide +kernel
theorem d29_27 : decode jdk_42_method_18_code 27 = .ok (.aload_n 0, 1) := by decide +kernel
theorem d29_28 : decode jdk_42_method_18_code 28 = .ok (.getstatic 123, 3) := by decide +kernel
theorem d29_31 : decode jdk_42_method_18_code 31 = .ok (.if_acmp .ne 9, 3) := by decide +kernel
theorem d29_34 : decode jdk_42_method_18_code 34 = .ok (.iload_n 1, 1) := by decide +kernel
theorem d29_35 : decode jdk_42_method_18_code 35 = .ok (.aload_n 2, 1) := by decide +kernel
theorem d29_36 : decode jdk_42_method_18_code 36 = .ok (.invokestatic 260, 3) := by decide +kernel
theorem d29_39 : decode jdk_42_method_18_code 39 = .ok (.areturn, 1) := by decide +kernel
theorem d29_40 : decode jdk_42_method_18_code 40 = .ok (.aload_n 0, 1) := by decide +kernel
theorem d29_41 : decode jdk_42_method_18_code 41 = .ok (.iload_n 1, 1) := by decide +kernel
theorem d29_42 : decode jdk_42_method_18_code 42 = .ok (.aload_n 2, 1) := by decide +kernel
theorem d29_43 : decode jdk_42_method_18_code 43 = .ok (.iconst 1, 1) := by decide +kernel
theorem d29_44 : decode jdk_42_method_18_code 44 = .ok (.invokestatic 263, 3) := by decide +kernel
theorem d29_47 : decode jdk_42_method_18_code 47 = .ok (.areturn, 1) := by decide +kernel
theorem pd29 : parseMethodDescriptor "(Ljava/nio/charset/Charset;B[B)[B" = some ⟨[(.object "java/nio/charset/Charset"), .byte, (.array .byte)], (some (.array .byte))⟩ := by decide +kernel
theorem pn29 : plainFor y29 = true := by first | exact plainFor_of_name (by first | (simp [plainName, overriddenIn]; done) | decide +kernel) | decide +kernel | rfl
set_option maxRecDepth 65536 in
set_option maxHeartbeats 40000000 in
theorem con_enc (l : Launch) (Z : State) (a0 : Array Value) (hw : ∀ d ∈ tables_1, d.before a0 Z = true) (h0 : Heap) (n0 : Nat) (Z0 : n0 ≤ h0.size) (σ : Sg) (b : Addr) (kb : ClassId) (cs : List Int32) (B : Arv Z h0 b kb .byte (Int32.ofNat cs.length) (bv cs) (.int 0)) (hp : Lat cs) (X : Exa Z h0 b "[B") (h4 : cs.length ≤ 4) (u8 : Addr) (U1 : Sta Z Z.heap "java/nio/charset/StandardCharsets" "UTF_8" "Ljava/nio/charset/Charset;" (.ref u8)) (U2 : Sta Z Z.heap "sun/nio/cs/UTF_8" "INSTANCE" "Lsun/nio/cs/UTF_8;" (.ref u8)) :
    Con l Z y29 jdk_42_method_18_code 3 ((some (.array .byte))) ({ frames := 3, cells := 2, slots := 16, locals := 100 } : Room) [] #[(.ref u8), (.int (0 : Int32)), (.ref b)] σ h0 n0 (fun v h τ => σ = τ ∧ ∃ d kd n vs, v = some (.ref d) ∧ h0.size ≤ d ∧ Ext h0 h ∧ Arv Z h d kd .byte (Int32.ofNat n) vs (.int 0) ∧ cs.length ≤ n ∧ n ≤ 2 * cs.length) := by
  refine Con.of_go pn29 (ls := #[.val (.ref u8), .val (.int (0 : Int32)), .val (.ref b)]) (fun m => by first | (simp [entryFrame, mkF, argsToLocals, Value.category]; done) | rfl) ?_
  intro κ D
  refine Go.aloadN D (pc' := 1) d29_0 rfl rfl rfl ?_
  refine Go.getS D (pc' := 4) (hw _ (List.mem_of_getElem? (i := 135) rfl)) d29_1 rfl U2 ?_
  refine Go.acmpNe D (pc' := 14) (pc2 := 7) rfl rfl d29_4 (by decide) (by decide) rfl ?_ ?_
  · intro (hc4 : ¬ (.ref u8 : Value) = .ref u8)
    exact absurd rfl hc4
  · intro (hc4 : (.ref u8 : Value) = .ref u8)
    refine Go.iloadN D (pc' := 8) d29_7 rfl rfl ?_
    refine Go.aloadN D (pc' := 9) d29_8 rfl rfl rfl ?_
    refine Go.iconst D (pc' := 10) d29_9 rfl (v := (1 : Int32)) rfl ?_
    refine Go.callS D (argsL := [(.int (0 : Int32)), (.ref b), (.int (1 : Int32))]) (rest := []) (pc' := 13) (ce' := 2) (sl' := 16) (con_eu8 l Z a0 hw h0 n0 Z0 σ b kb cs B hp X h4) (hw _ (List.mem_of_getElem? (i := 137) rfl)) (hw _ (List.mem_of_getElem? (i := 138) rfl)) (hw _ (List.mem_of_getElem? (i := 13) rfl)) (hw _ (List.mem_of_getElem? (i := 139) rfl)) (by decide) d29_10 rfl pd30 rfl rfl rfl (by decide) (W := 0) rfl (by decide) (by decide) (by decide) (by decide) (by decide) ?_
    intro v10 h2 σ10 q10
    obtain ⟨rfl, d, kd, n, vs, rfl, gd, E2, D2, b1, b2⟩ := q10
    show Go κ σ h2 2 16 13 #[.val (.ref u8), .val (.int (0 : Int32)), .val (.ref b)] [(.ref d)]
    refine Go.aret D rfl rfl rfl d29_13 (by decide) (by decide) ?_
    exact ⟨rfl, d, kd, n, vs, rfl, gd, E2, D2, b1, b2⟩
abbrev y28 : MethodName := ⟨"java/lang/String", "getBytes", "(Ljava/nio/charset/Charset;)[B"⟩
theorem d28_0 : decode jdk_42_method_64_code 0 = .ok (.aload_n 1, 1) := by decide +kernel
theorem d28_1 : decode jdk_42_method_64_code 1 = .ok (.ifnonnull 11, 3) := by decide +kernel
theorem d28_4 : decode jdk_42_method_64_code 4 = .ok (.new 538, 3) := by decide +kernel
theorem d28_7 : decode jdk_42_method_64_code 7 = .ok (.dup, 1) := by decide +kernel
theorem d28_8 : decode jdk_42_method_64_code 8 = .ok (.invokespecial 540, 3) := by decide +kernel
theorem d28_11 : decode jdk_42_method_64_code 11 = .ok (.athrow, 1) := by decide +kernel
theorem d28_12 : decode jdk_42_method_64_code 12 = .ok (.aload_n 1, 1) := by decide +kernel
theorem d28_13 : decode jdk_42_method_64_code 13 = .ok (.aload_n 0, 1) := by decide +kernel
theorem d28_14 : decode jdk_42_method_64_code 14 = .ok (.invokevirtual 335, 3) := by decide +kernel
theorem d28_17 : decode jdk_42_method_64_code 17 = .ok (.aload_n 0, 1) := by decide +kernel
theorem d28_18 : decode jdk_42_method_64_code 18 = .ok (.getfield 9, 3) := by decide +kernel
theorem d28_21 : decode jdk_42_method_64_code 21 = .ok (.invokestatic 535, 3) := by decide +kernel
theorem d28_24 : decode jdk_42_method_64_code 24 = .ok (.areturn, 1) := by decide +kernel
theorem pd28 : parseMethodDescriptor "(Ljava/nio/charset/Charset;)[B" = some ⟨[(.object "java/nio/charset/Charset")], (some (.array .byte))⟩ := by decide +kernel
theorem pn28 : plainFor y28 = true := by first | exact plainFor_of_name (by first | (simp [plainName, overriddenIn]; done) | decide +kernel) | decide +kernel | rfl
set_option maxRecDepth 65536 in
set_option maxHeartbeats 40000000 in
theorem con_gb (l : Launch) (Z : State) (a0 : Array Value) (hw : ∀ d ∈ tables_1, d.before a0 Z = true) (h0 : Heap) (n0 : Nat) (Z0 : n0 ≤ h0.size) (σ : Sg) (s : Addr) (cs : List Int32) (S : Str Z h0 s cs) (Hx : ∃ b, Fld Z h0 s "java/lang/String" "value" "[B" (.ref b) ∧ Exa Z h0 b "[B") (h4 : cs.length ≤ 4) (cz : Int32) (hcz : ¬ cz = 0) (O2 : Sta Z Z.heap "java/lang/String" "COMPACT_STRINGS" "Z" (.int cz)) (u8 : Addr) (U1 : Sta Z Z.heap "java/nio/charset/StandardCharsets" "UTF_8" "Ljava/nio/charset/Charset;" (.ref u8)) (U2 : Sta Z Z.heap "sun/nio/cs/UTF_8" "INSTANCE" "Lsun/nio/cs/UTF_8;" (.ref u8)) :
    Con l Z y28 jdk_42_method_64_code 2 ((some (.array .byte))) ({ frames := 4, cells := 2, slots := 16, locals := 114 } : Room) [] #[(.ref s), (.ref u8)] σ h0 n0 (fun v h τ => σ = τ ∧ ∃ d kd n vs, v = some (.ref d) ∧ h0.size ≤ d ∧ Ext h0 h ∧ Arv Z h d kd .byte (Int32.ofNat n) vs (.int 0) ∧ cs.length ≤ n ∧ n ≤ 2 * cs.length) := by
  refine Con.of_go pn28 (ls := #[.val (.ref s), .val (.ref u8)]) (fun m => by first | (simp [entryFrame, mkF, argsToLocals, Value.category]; done) | rfl) ?_
  intro κ D
  obtain ⟨e1, e2, b, kb, e3, e4⟩ := id S.1
  have hX : Exa Z h0 b "[B" := by
    obtain ⟨b', q1, q2⟩ := Hx
    have e : b = b' := Classical.byContradiction fun u => Fld.ne e3 q1 (fun z => u (by injection z)) rfl
    rw [e]; exact q2
  refine Go.aloadN D (pc' := 1) d28_0 rfl rfl rfl ?_
  refine Go.ifnonnullY D (pc' := 12) d28_1 (by decide) (by decide) ?_
  refine Go.aloadN D (pc' := 13) d28_12 rfl rfl rfl ?_
  refine Go.aloadN D (pc' := 14) d28_13 rfl rfl rfl ?_
  refine Go.callV D (argsL := []) (rest := [(.ref u8)]) (pc' := 17) (ce' := 0) (sl' := 0) (con_scoder l Z a0 hw h0 n0 σ s e2 cz hcz O2) (hw _ (List.mem_of_getElem? (i := 73) rfl)) (hw _ (List.mem_of_getElem? (i := 74) rfl)) (hw _ (List.mem_of_getElem? (i := 76) rfl)) (hw _ (List.mem_of_getElem? (i := 75) rfl)) (hw _ (List.mem_of_getElem? (i := 13) rfl)) (hw _ (List.mem_of_getElem? (i := 77) rfl)) (nfS (hw _ (List.mem_of_getElem? (i := 76) rfl))) (by decide) e1 d28_14 rfl pd16 rfl rfl rfl (by decide) (W := 1) rfl (by decide) (by decide) (by decide) (by decide) (by decide) ?_
  intro v14 h14 σ14 q14
  obtain ⟨rfl, rfl, rfl⟩ := q14
  show Go κ σ h0 0 0 17 #[.val (.ref s), .val (.ref u8)] [(.int (0 : Int32)), (.ref u8)]
  refine Go.aloadN D (pc' := 18) d28_17 rfl rfl rfl ?_
  refine Go.getF D (pc' := 21) (hw _ (List.mem_of_getElem? (i := 39) rfl)) d28_18 rfl e3 ?_
  refine Go.callS D (argsL := [(.ref u8), (.int (0 : Int32)), (.ref b)]) (rest := []) (pc' := 24) (ce' := 2) (sl' := 16) (con_enc l Z a0 hw h0 n0 Z0 σ b kb cs e4 S.2 hX h4 u8 U1 U2) (hw _ (List.mem_of_getElem? (i := 132) rfl)) (hw _ (List.mem_of_getElem? (i := 133) rfl)) (hw _ (List.mem_of_getElem? (i := 13) rfl)) (hw _ (List.mem_of_getElem? (i := 134) rfl)) (by decide) d28_21 rfl pd29 rfl rfl rfl (by decide) (W := 0) rfl (by decide) (by decide) (by decide) (by decide) (by decide) ?_
  intro v21 h2 σ21 q21
  obtain ⟨rfl, d, kd, n, vs, rfl, gd, E2, D2, b1, b2⟩ := q21
  show Go κ σ h2 2 16 24 #[.val (.ref s), .val (.ref u8)] [(.ref d)]
  refine Go.aret D rfl rfl rfl d28_24 (by decide) (by decide) ?_
  exact ⟨rfl, d, kd, n, vs, rfl, gd, E2, D2, b1, b2⟩
set_option maxRecDepth 65536 in
set_option maxHeartbeats 40000000 in
theorem con_scoderW (l : Launch) (Z : State) (a0 : Array Value) (hw : ∀ d ∈ tables_1, d.before a0 Z = true) (h0 : Heap) (n0 : Nat) (σ : Sg) (s : Addr) (F : Fld Z h0 s "java/lang/String" "coder" "B" (.int 1)) (cz : Int32) (hcz : ¬ cz = 0) (O2 : Sta Z Z.heap "java/lang/String" "COMPACT_STRINGS" "Z" (.int cz)) :
    Con l Z y16 jdk_42_method_152_code 1 ((some .byte)) ({ frames := 0, cells := 0, slots := 0, locals := 0 } : Room) [] #[(.ref s)] σ h0 n0 (fun v h τ => h0 = h ∧ σ = τ ∧ v = some (.int 1)) := by
  refine Con.of_go pn16 (ls := #[.val (.ref s)]) (fun m => by first | (simp [entryFrame, mkF, argsToLocals, Value.category]; done) | rfl) ?_
  intro κ D
  refine Go.getS D (pc' := 3) (hw _ (List.mem_of_getElem? (i := 25) rfl)) d16_0 rfl O2 ?_
  refine Go.ifc D (pc' := 13) (pc2 := 6) d16_3 (by decide) (by decide) rfl ?_ ?_
  · intro (hc3 : cz = 0)
    exact absurd hc3 hcz
  · intro (hc3 : ¬ cz = 0)
    refine Go.aloadN D (pc' := 7) d16_6 rfl rfl rfl ?_
    refine Go.getF D (pc' := 10) (hw _ (List.mem_of_getElem? (i := 37) rfl)) d16_7 rfl F ?_
    refine Go.goto D (pc' := 14) d16_10 (by decide) (by decide) ?_
    refine Go.bret D rfl rfl d16_14 (by decide) (by decide) ?_
    exact ⟨rfl, rfl, rfl⟩
set_option maxRecDepth 65536 in
set_option maxHeartbeats 40000000 in
theorem con_sislW (l : Launch) (Z : State) (a0 : Array Value) (hw : ∀ d ∈ tables_1, d.before a0 Z = true) (h0 : Heap) (n0 : Nat) (σ : Sg) (s : Addr) (F : Fld Z h0 s "java/lang/String" "coder" "B" (.int 1)) (cz : Int32) (hcz : ¬ cz = 0) (O2 : Sta Z Z.heap "java/lang/String" "COMPACT_STRINGS" "Z" (.int cz)) :
    Con l Z y19 jdk_42_method_154_code 1 ((some .boolean)) ({ frames := 0, cells := 0, slots := 0, locals := 0 } : Room) [] #[(.ref s)] σ h0 n0 (fun v h τ => h0 = h ∧ σ = τ ∧ v = some (.int 0)) := by
  refine Con.of_go pn19 (ls := #[.val (.ref s)]) (fun m => by first | (simp [entryFrame, mkF, argsToLocals, Value.category]; done) | rfl) ?_
  intro κ D
  refine Go.getS D (pc' := 3) (hw _ (List.mem_of_getElem? (i := 25) rfl)) d19_0 rfl O2 ?_
  refine Go.ifc D (pc' := 17) (pc2 := 6) d19_3 (by decide) (by decide) rfl ?_ ?_
  · intro (hc3 : cz = 0)
    exact absurd hc3 hcz
  · intro (hc3 : ¬ cz = 0)
    refine Go.aloadN D (pc' := 7) d19_6 rfl rfl rfl ?_
    refine Go.getF D (pc' := 10) (hw _ (List.mem_of_getElem? (i := 37) rfl)) d19_7 rfl F ?_
    refine Go.ifc D (pc' := 17) (pc2 := 13) d19_10 (by decide) (by decide) rfl (fun _ => ?_) (fun (hc : (1 : Int32) = 0) => absurd hc (by decide))
    refine Go.iconst D (pc' := 18) d19_17 rfl (v := (0 : Int32)) rfl ?_
    refine Go.zret D rfl rfl d19_18 (by decide) (by decide) ?_
    exact ⟨rfl, rfl, rfl⟩
set_option maxRecDepth 65536 in
set_option maxHeartbeats 40000000 in
theorem con_slenW (l : Launch) (Z : State) (a0 : Array Value) (hw : ∀ d ∈ tables_1, d.before a0 Z = true) (h0 : Heap) (n0 : Nat) (σ : Sg) (s : Addr) (cs : List Int32) (S : Wd Z h0 s cs) (cz : Int32) (hcz : ¬ cz = 0) (O2 : Sta Z Z.heap "java/lang/String" "COMPACT_STRINGS" "Z" (.int cz)) :
    Con l Z y15 jdk_42_method_54_code 1 ((some .int)) ({ frames := 1, cells := 0, slots := 0, locals := 13 } : Room) [] #[(.ref s)] σ h0 n0 (fun v h τ => h0 = h ∧ σ = τ ∧ v = some (.int (Int32.ofNat cs.length))) := by
  refine Con.of_go pn15 (ls := #[.val (.ref s)]) (fun m => by first | (simp [entryFrame, mkF, argsToLocals, Value.category]; done) | rfl) ?_
  intro κ D
  obtain ⟨⟨e1, e2, b, kb, e3, e4⟩, h16, h4, hbig⟩ := id S
  refine Go.aloadN D (pc' := 1) d15_0 rfl rfl rfl ?_
  refine Go.getF D (pc' := 4) (hw _ (List.mem_of_getElem? (i := 39) rfl)) d15_1 rfl e3 ?_
  refine Go.alen D (pc' := 5) d15_4 rfl e4 ?_
  refine Go.aloadN D (pc' := 6) d15_5 rfl rfl rfl ?_
  refine Go.callV D (argsL := []) (rest := [(.int (Int32.ofNat (2 * cs.length)))]) (pc' := 9) (ce' := 0) (sl' := 0) (con_scoderW l Z a0 hw h0 n0 σ s e2 cz hcz O2) (hw _ (List.mem_of_getElem? (i := 73) rfl)) (hw _ (List.mem_of_getElem? (i := 74) rfl)) (hw _ (List.mem_of_getElem? (i := 76) rfl)) (hw _ (List.mem_of_getElem? (i := 75) rfl)) (hw _ (List.mem_of_getElem? (i := 13) rfl)) (hw _ (List.mem_of_getElem? (i := 77) rfl)) (nfS (hw _ (List.mem_of_getElem? (i := 76) rfl))) (by decide) e1 d15_6 rfl pd16 rfl rfl rfl (by decide) (W := 1) rfl (by decide) (by decide) (by decide) (by decide) (by decide) ?_
  intro v6 h6 σ6 q6
  obtain ⟨rfl, rfl, rfl⟩ := q6
  show Go κ σ h0 0 0 9 #[.val (.ref s)] [(.int (1 : Int32)), (.int (Int32.ofNat (2 * cs.length)))]
  refine Go.ishr D (pc' := 10) d15_9 rfl  ?_
  rw [own_shr1 (by omega)]
  refine Go.iret D rfl d15_10 (by decide) (by decide) ?_
  exact ⟨rfl, rfl, rfl⟩
abbrev y47 : MethodName := ⟨"java/lang/StringUTF16", "checkIndex", "(I[B)V"⟩
theorem d47_0 : decode jdk_52_method_91_code 0 = .ok (.iload_n 0, 1) := by decide +kernel
theorem d47_1 : decode jdk_52_method_91_code 1 = .ok (.aload_n 1, 1) := by decide +kernel
theorem d47_2 : decode jdk_52_method_91_code 2 = .ok (.invokestatic 48, 3) := by decide +kernel
theorem d47_5 : decode jdk_52_method_91_code 5 = .ok (.invokestatic 414, 3) := by decide +kernel
theorem d47_8 : decode jdk_52_method_91_code 8 = .ok (.return_, 1) := by decide +kernel
theorem pd47 : parseMethodDescriptor "(I[B)V" = some ⟨[.int, (.array .byte)], none⟩ := by decide +kernel
theorem pn47 : plainFor y47 = true := by first | exact plainFor_of_name (by first | (simp [plainName, overriddenIn]; done) | decide +kernel) | decide +kernel | rfl
set_option maxRecDepth 65536 in
set_option maxHeartbeats 40000000 in
theorem con_chkU (l : Launch) (Z : State) (a0 : Array Value) (hw : ∀ d ∈ tables_1, d.before a0 Z = true) (h0 : Heap) (n0 : Nat) (σ : Sg) (b : Addr) (kb : ClassId) (cs : List Int32) (V : Arv Z h0 b kb .byte (Int32.ofNat (2 * cs.length)) ((ubl cs).map Value.int) (.int 0)) (h4 : cs.length ≤ 4) (i : Nat) (hi : i < cs.length) (fm : Value) (rf : fm.isRef = true) (O4 : Sta Z Z.heap "jdk/internal/util/Preconditions" "SIOOBE_FORMATTER" "Ljava/util/function/BiFunction;" fm) :
    Con l Z y47 jdk_52_method_91_code 2 none ({ frames := 2, cells := 0, slots := 0, locals := 28 } : Room) [] #[(.int (Int32.ofNat i)), (.ref b)] σ h0 n0 (fun v h τ => h0 = h ∧ σ = τ ∧ v = none) := by
  refine Con.of_go pn47 (ls := #[.val (.int (Int32.ofNat i)), .val (.ref b)]) (fun m => by first | (simp [entryFrame, mkF, argsToLocals, Value.category]; done) | rfl) ?_
  intro κ D
  refine Go.iloadN D (pc' := 1) d47_0 rfl rfl ?_
  refine Go.aloadN D (pc' := 2) d47_1 rfl rfl rfl ?_
  refine Go.callS D (argsL := [(.ref b)]) (rest := [(.int (Int32.ofNat i))]) (pc' := 5) (ce' := 0) (sl' := 0) (con_lenU l Z a0 hw h0 n0 σ b kb cs.length _ V (by omega)) (hw _ (List.mem_of_getElem? (i := 223) rfl)) (hw _ (List.mem_of_getElem? (i := 224) rfl)) (hw _ (List.mem_of_getElem? (i := 28) rfl)) (hw _ (List.mem_of_getElem? (i := 225) rfl)) (by decide) d47_2 rfl pd48 rfl rfl rfl (by decide) (W := 1) rfl (by decide) (by decide) (by decide) (by decide) (by decide) ?_
  intro v2 h2 σ2 q2
  obtain ⟨rfl, rfl, rfl⟩ := q2
  show Go κ σ h0 0 0 5 #[.val (.int (Int32.ofNat i)), .val (.ref b)] [(.int (Int32.ofNat cs.length)), (.int (Int32.ofNat i))]
  refine Go.callS D (argsL := [(.int (Int32.ofNat i)), (.int (Int32.ofNat cs.length))]) (rest := []) (pc' := 8) (ce' := 0) (sl' := 0) (con_sci l Z a0 hw h0 n0 σ (Int32.ofNat i) (Int32.ofNat cs.length) (own_nn (by omega)) ((own_lt (by omega) (by omega)).mpr hi) fm rf O4) (hw _ (List.mem_of_getElem? (i := 226) rfl)) (hw _ (List.mem_of_getElem? (i := 96) rfl)) (hw _ (List.mem_of_getElem? (i := 13) rfl)) (hw _ (List.mem_of_getElem? (i := 97) rfl)) (by decide) d47_5 rfl pd21 rfl rfl rfl (by decide) (W := 0) rfl (by decide) (by decide) (by decide) (by decide) (by decide) ?_
  intro v5 h5 σ5 q5
  obtain ⟨rfl, rfl, rfl⟩ := q5
  show Go κ σ h0 0 0 8 #[.val (.int (Int32.ofNat i)), .val (.ref b)] []
  refine Go.vret D rfl d47_8 (by decide) (by decide) ?_
  exact ⟨rfl, rfl, rfl⟩
abbrev y46 : MethodName := ⟨"java/lang/StringUTF16", "charAt", "([BI)C"⟩
theorem d46_0 : decode jdk_52_method_83_code 0 = .ok (.iload_n 1, 1) := by decide +kernel
theorem d46_1 : decode jdk_52_method_83_code 1 = .ok (.aload_n 0, 1) := by decide +kernel
theorem d46_2 : decode jdk_52_method_83_code 2 = .ok (.invokestatic 67, 3) := by decide +kernel
theorem d46_5 : decode jdk_52_method_83_code 5 = .ok (.aload_n 0, 1) := by decide +kernel
theorem d46_6 : decode jdk_52_method_83_code 6 = .ok (.iload_n 1, 1) := by decide +kernel
theorem d46_7 : decode jdk_52_method_83_code 7 = .ok (.invokestatic 71, 3) := by decide +kernel
theorem d46_10 : decode jdk_52_method_83_code 10 = .ok (.ireturn, 1) := by decide +kernel
theorem pd46 : parseMethodDescriptor "([BI)C" = some ⟨[(.array .byte), .int], (some .char)⟩ := by decide +kernel
theorem pn46 : plainFor y46 = true := by first | exact plainFor_of_name (by first | (simp [plainName, overriddenIn]; done) | decide +kernel) | decide +kernel | rfl
set_option maxRecDepth 65536 in
set_option maxHeartbeats 40000000 in
theorem con_uchAt (l : Launch) (Z : State) (a0 : Array Value) (hw : ∀ d ∈ tables_1, d.before a0 Z = true) (h0 : Heap) (n0 : Nat) (σ : Sg) (b : Addr) (kb : ClassId) (cs : List Int32) (V : Arv Z h0 b kb .byte (Int32.ofNat (2 * cs.length)) ((ubl cs).map Value.int) (.int 0)) (h4 : cs.length ≤ 4) (i : Nat) (hi : i < cs.length) (hc : C16 cs[i]) (fm : Value) (rf : fm.isRef = true) (O4 : Sta Z Z.heap "jdk/internal/util/Preconditions" "SIOOBE_FORMATTER" "Ljava/util/function/BiFunction;" fm) (AD : Sta Z Z.heap "java/lang/StringUTF16" "$assertionsDisabled" "Z" (.int 1)) (HI : Sta Z Z.heap "java/lang/StringUTF16" "HI_BYTE_SHIFT" "I" (.int 0)) (LO : Sta Z Z.heap "java/lang/StringUTF16" "LO_BYTE_SHIFT" "I" (.int 8)) :
    Con l Z y46 jdk_52_method_83_code 2 ((some .char)) ({ frames := 3, cells := 0, slots := 0, locals := 42 } : Room) [] #[(.ref b), (.int (Int32.ofNat i))] σ h0 n0 (fun v h τ => h0 = h ∧ σ = τ ∧ v = some (.int cs[i])) := by
  refine Con.of_go pn46 (ls := #[.val (.ref b), .val (.int (Int32.ofNat i))]) (fun m => by first | (simp [entryFrame, mkF, argsToLocals, Value.category]; done) | rfl) ?_
  intro κ D
  refine Go.iloadN D (pc' := 1) d46_0 rfl rfl ?_
  refine Go.aloadN D (pc' := 2) d46_1 rfl rfl rfl ?_
  refine Go.callS D (argsL := [(.int (Int32.ofNat i)), (.ref b)]) (rest := []) (pc' := 5) (ce' := 0) (sl' := 0) (con_chkU l Z a0 hw h0 n0 σ b kb cs V h4 i hi fm rf O4) (hw _ (List.mem_of_getElem? (i := 220) rfl)) (hw _ (List.mem_of_getElem? (i := 221) rfl)) (hw _ (List.mem_of_getElem? (i := 28) rfl)) (hw _ (List.mem_of_getElem? (i := 222) rfl)) (by decide) d46_2 rfl pd47 rfl rfl rfl (by decide) (W := 0) rfl (by decide) (by decide) (by decide) (by decide) (by decide) ?_
  intro v2 h2 σ2 q2
  obtain ⟨rfl, rfl, rfl⟩ := q2
  show Go κ σ h0 0 0 5 #[.val (.ref b), .val (.int (Int32.ofNat i))] []
  refine Go.aloadN D (pc' := 6) d46_5 rfl rfl rfl ?_
  refine Go.iloadN D (pc' := 7) d46_6 rfl rfl ?_
  refine Go.callS D (argsL := [(.ref b), (.int (Int32.ofNat i))]) (rest := []) (pc' := 10) (ce' := 0) (sl' := 0) (con_gch l Z a0 hw h0 n0 σ b kb cs V h4 i hi hc AD HI LO) (hw _ (List.mem_of_getElem? (i := 197) rfl)) (hw _ (List.mem_of_getElem? (i := 198) rfl)) (hw _ (List.mem_of_getElem? (i := 28) rfl)) (hw _ (List.mem_of_getElem? (i := 199) rfl)) (by decide) d46_7 rfl pd40 rfl rfl rfl (by decide) (W := 0) rfl (by decide) (by decide) (by decide) (by decide) (by decide) ?_
  intro v7 h7 σ7 q7
  obtain ⟨rfl, rfl, rfl⟩ := q7
  show Go κ σ h0 0 0 10 #[.val (.ref b), .val (.int (Int32.ofNat i))] [(.int cs[i])]
  refine Go.cret D rfl (congrArg Value.int (char16_nar hc)) d46_10 (by decide) (by decide) ?_
  exact ⟨rfl, rfl, rfl⟩
theorem d18_16 : decode jdk_42_method_56_code 16 = .ok (.aload_n 0, 1) := by decide +kernel
theorem d18_17 : decode jdk_42_method_56_code 17 = .ok (.getfield 9, 3) := by decide +kernel
theorem d18_20 : decode jdk_42_method_56_code 20 = .ok (.iload_n 1, 1) := by decide +kernel
theorem d18_21 : decode jdk_42_method_56_code 21 = .ok (.invokestatic 498, 3) := by decide +kernel
theorem d18_24 : decode jdk_42_method_56_code 24 = .ok (.ireturn, 1) := by decide +kernel
set_option maxRecDepth 65536 in
set_option maxHeartbeats 40000000 in
theorem con_chAtW (l : Launch) (Z : State) (a0 : Array Value) (hw : ∀ d ∈ tables_1, d.before a0 Z = true) (h0 : Heap) (n0 : Nat) (σ : Sg) (s : Addr) (cs : List Int32) (S : Wd Z h0 s cs) (i : Nat) (hi : i < cs.length) (cz : Int32) (hcz : ¬ cz = 0) (O2 : Sta Z Z.heap "java/lang/String" "COMPACT_STRINGS" "Z" (.int cz)) (fm : Value) (rf : fm.isRef = true) (O4 : Sta Z Z.heap "jdk/internal/util/Preconditions" "SIOOBE_FORMATTER" "Ljava/util/function/BiFunction;" fm) (AD : Sta Z Z.heap "java/lang/StringUTF16" "$assertionsDisabled" "Z" (.int 1)) (HI : Sta Z Z.heap "java/lang/StringUTF16" "HI_BYTE_SHIFT" "I" (.int 0)) (LO : Sta Z Z.heap "java/lang/StringUTF16" "LO_BYTE_SHIFT" "I" (.int 8)) :
    Con l Z y18 jdk_42_method_56_code 2 ((some .char)) ({ frames := 4, cells := 0, slots := 0, locals := 56 } : Room) [] #[(.ref s), (.int (Int32.ofNat i))] σ h0 n0 (fun v h τ => h0 = h ∧ σ = τ ∧ v = some (.int cs[i])) := by
  refine Con.of_go pn18 (ls := #[.val (.ref s), .val (.int (Int32.ofNat i))]) (fun m => by first | (simp [entryFrame, mkF, argsToLocals, Value.category]; done) | rfl) ?_
  intro κ D
  obtain ⟨⟨e1, e2, b, kb, e3, e4⟩, h16, h4, hbig⟩ := id S
  refine Go.aloadN D (pc' := 1) d18_0 rfl rfl rfl ?_
  refine Go.callV D (argsL := []) (rest := []) (pc' := 4) (ce' := 0) (sl' := 0) (con_sislW l Z a0 hw h0 n0 σ s e2 cz hcz O2) (hw _ (List.mem_of_getElem? (i := 86) rfl)) (hw _ (List.mem_of_getElem? (i := 87) rfl)) (hw _ (List.mem_of_getElem? (i := 89) rfl)) (hw _ (List.mem_of_getElem? (i := 88) rfl)) (hw _ (List.mem_of_getElem? (i := 13) rfl)) (hw _ (List.mem_of_getElem? (i := 90) rfl)) (nfS (hw _ (List.mem_of_getElem? (i := 89) rfl))) (by decide) e1 d18_1 rfl pd19 rfl rfl rfl (by decide) (W := 0) rfl (by decide) (by decide) (by decide) (by decide) (by decide) ?_
  intro v1 h1 σ1 q1
  obtain ⟨rfl, rfl, rfl⟩ := q1
  show Go κ σ h0 0 0 4 #[.val (.ref s), .val (.int (Int32.ofNat i))] [(.int (0 : Int32))]
  refine Go.ifc D (pc' := 16) (pc2 := 7) d18_4 (by decide) (by decide) rfl (fun _ => ?_) (fun (hc : ¬ (0 : Int32) = 0) => absurd hc (by decide))
  refine Go.aloadN D (pc' := 17) d18_16 rfl rfl rfl ?_
  refine Go.getF D (pc' := 20) (hw _ (List.mem_of_getElem? (i := 39) rfl)) d18_17 rfl e3 ?_
  refine Go.iloadN D (pc' := 21) d18_20 rfl rfl ?_
  refine Go.callS D (argsL := [(.ref b), (.int (Int32.ofNat i))]) (rest := []) (pc' := 24) (ce' := 0) (sl' := 0) (con_uchAt l Z a0 hw h0 n0 σ b kb cs e4 h4 i hi (h16 _ (List.getElem_mem hi)) fm rf O4 AD HI LO) (hw _ (List.mem_of_getElem? (i := 217) rfl)) (hw _ (List.mem_of_getElem? (i := 218) rfl)) (hw _ (List.mem_of_getElem? (i := 28) rfl)) (hw _ (List.mem_of_getElem? (i := 219) rfl)) (by decide) d18_21 rfl pd46 rfl rfl rfl (by decide) (W := 0) rfl (by decide) (by decide) (by decide) (by decide) (by decide) ?_
  intro v21 h21 σ21 q21
  obtain ⟨rfl, rfl, rfl⟩ := q21
  show Go κ σ h0 0 0 24 #[.val (.ref s), .val (.int (Int32.ofNat i))] [(.int cs[i])]
  refine Go.cret D rfl (congrArg Value.int (char16_nar (h16 _ (List.getElem_mem hi)))) d18_24 (by decide) (by decide) ?_
  exact ⟨rfl, rfl, rfl⟩
abbrev y43 : MethodName := ⟨"java/lang/Character", "isHighSurrogate", "(C)Z"⟩
theorem d43_0 : decode jdk_89_method_14_code 0 = .ok (.iload_n 0, 1) := by decide +kernel
theorem d43_1 : decode jdk_89_method_14_code 1 = .ok (.ldc 75, 2) := by decide +kernel
theorem d43_3 : decode jdk_89_method_14_code 3 = .ok (.if_icmp .lt 13, 3) := by decide +kernel
theorem d43_6 : decode jdk_89_method_14_code 6 = .ok (.iload_n 0, 1) := by decide +kernel
theorem d43_7 : decode jdk_89_method_14_code 7 = .ok (.ldc 76, 2) := by decide +kernel
theorem d43_9 : decode jdk_89_method_14_code 9 = .ok (.if_icmp .ge 7, 3) := by decide +kernel
theorem d43_12 : decode jdk_89_method_14_code 12 = .ok (.iconst 1, 1) := by decide +kernel
theorem d43_13 : decode jdk_89_method_14_code 13 = .ok (.goto 4, 3) := by decide +kernel
theorem d43_16 : decode jdk_89_method_14_code 16 = .ok (.iconst 0, 1) := by decide +kernel
theorem d43_17 : decode jdk_89_method_14_code 17 = .ok (.ireturn, 1) := by decide +kernel
theorem pd43 : parseMethodDescriptor "(C)Z" = some ⟨[.char], (some .boolean)⟩ := by decide +kernel
theorem pn43 : plainFor y43 = true := by first | exact plainFor_of_name (by first | (simp [plainName, overriddenIn]; done) | decide +kernel) | decide +kernel | rfl
set_option maxRecDepth 65536 in
set_option maxHeartbeats 40000000 in
theorem con_ihs (l : Launch) (Z : State) (a0 : Array Value) (hw : ∀ d ∈ tables_1, d.before a0 Z = true) (h0 : Heap) (n0 : Nat) (σ : Sg) (c : Int32) (hc : ¬ (¬ c < 55296 ∧ ¬ 57343 < c)) :
    Con l Z y43 jdk_89_method_14_code 1 ((some .boolean)) ({ frames := 0, cells := 0, slots := 0, locals := 0 } : Room) [] #[(.int c)] σ h0 n0 (fun v h τ => h0 = h ∧ σ = τ ∧ v = some (.int 0)) := by
  refine Con.of_go pn43 (ls := #[.val (.int c)]) (fun m => by first | (simp [entryFrame, mkF, argsToLocals, Value.category]; done) | rfl) ?_
  intro κ D
  refine Go.iloadN D (pc' := 1) d43_0 rfl rfl ?_
  refine Go.ldcInt D (pc' := 3) (hw _ (List.mem_of_getElem? (i := 209) rfl)) d43_1 rfl ?_
  refine Go.icmp D (pc' := 16) (pc2 := 6) d43_3 (by decide) (by decide) rfl ?_ ?_
  · intro (hc3 : c < (55296 : Int32))
    refine Go.iconst D (pc' := 17) d43_16 rfl (v := (0 : Int32)) rfl ?_
    refine Go.zret D rfl rfl d43_17 (by decide) (by decide) ?_
    exact ⟨rfl, rfl, rfl⟩
  · intro (hc3 : ¬ c < (55296 : Int32))
    refine Go.iloadN D (pc' := 7) d43_6 rfl rfl ?_
    refine Go.ldcInt D (pc' := 9) (hw _ (List.mem_of_getElem? (i := 232) rfl)) d43_7 rfl ?_
    refine Go.icmp D (pc' := 16) (pc2 := 12) d43_9 (by decide) (by decide) rfl ?_ ?_
    · intro (hc9 : ¬ c < (56320 : Int32))
      refine Go.iconst D (pc' := 17) d43_16 rfl (v := (0 : Int32)) rfl ?_
      refine Go.zret D rfl rfl d43_17 (by decide) (by decide) ?_
      exact ⟨rfl, rfl, rfl⟩
    · intro (hc9 : c < (56320 : Int32))
      refine Go.iconst D (pc' := 13) d43_12 rfl (v := (1 : Int32)) rfl ?_
      refine Go.goto D (pc' := 17) d43_13 (by decide) (by decide) ?_
      refine Go.zret D rfl rfl d43_17 (by decide) (by decide) ?_
      exfalso
      simp only [Int32.lt_iff_toInt_lt, show (0 : Int32).toInt = 0 from rfl, show (8 : Int32).toInt = 8 from rfl, show (32 : Int32).toInt = 32 from rfl, show (64 : Int32).toInt = 64 from rfl, show (127 : Int32).toInt = 127 from rfl, show (255 : Int32).toInt = 255 from rfl, show (256 : Int32).toInt = 256 from rfl, show (65536 : Int32).toInt = 65536 from rfl, show (55296 : Int32).toInt = 55296 from rfl, show (56320 : Int32).toInt = 56320 from rfl, show (57343 : Int32).toInt = 57343 from rfl, show (57344 : Int32).toInt = 57344 from rfl, show (16384 : Int32).toInt = 16384 from rfl] at hc hc3 hc9
      omega
abbrev y45 : MethodName := ⟨"java/lang/Character", "isSurrogate", "(C)Z"⟩
theorem d45_0 : decode jdk_89_method_16_code 0 = .ok (.iload_n 0, 1) := by decide +kernel
theorem d45_1 : decode jdk_89_method_16_code 1 = .ok (.ldc 75, 2) := by decide +kernel
theorem d45_3 : decode jdk_89_method_16_code 3 = .ok (.if_icmp .lt 13, 3) := by decide +kernel
theorem d45_6 : decode jdk_89_method_16_code 6 = .ok (.iload_n 0, 1) := by decide +kernel
theorem d45_7 : decode jdk_89_method_16_code 7 = .ok (.ldc 77, 2) := by decide +kernel
theorem d45_9 : decode jdk_89_method_16_code 9 = .ok (.if_icmp .ge 7, 3) := by decide +kernel
theorem d45_12 : decode jdk_89_method_16_code 12 = .ok (.iconst 1, 1) := by decide +kernel
theorem d45_13 : decode jdk_89_method_16_code 13 = .ok (.goto 4, 3) := by decide +kernel
theorem d45_16 : decode jdk_89_method_16_code 16 = .ok (.iconst 0, 1) := by decide +kernel
theorem d45_17 : decode jdk_89_method_16_code 17 = .ok (.ireturn, 1) := by decide +kernel
theorem pd45 : parseMethodDescriptor "(C)Z" = some ⟨[.char], (some .boolean)⟩ := by decide +kernel
theorem pn45 : plainFor y45 = true := by first | exact plainFor_of_name (by first | (simp [plainName, overriddenIn]; done) | decide +kernel) | decide +kernel | rfl
set_option maxRecDepth 65536 in
set_option maxHeartbeats 40000000 in
theorem con_isu (l : Launch) (Z : State) (a0 : Array Value) (hw : ∀ d ∈ tables_1, d.before a0 Z = true) (h0 : Heap) (n0 : Nat) (σ : Sg) (c : Int32) (hc : ¬ (¬ c < 55296 ∧ ¬ 57343 < c)) :
    Con l Z y45 jdk_89_method_16_code 1 ((some .boolean)) ({ frames := 0, cells := 0, slots := 0, locals := 0 } : Room) [] #[(.int c)] σ h0 n0 (fun v h τ => h0 = h ∧ σ = τ ∧ v = some (.int 0)) := by
  refine Con.of_go pn45 (ls := #[.val (.int c)]) (fun m => by first | (simp [entryFrame, mkF, argsToLocals, Value.category]; done) | rfl) ?_
  intro κ D
  refine Go.iloadN D (pc' := 1) d45_0 rfl rfl ?_
  refine Go.ldcInt D (pc' := 3) (hw _ (List.mem_of_getElem? (i := 209) rfl)) d45_1 rfl ?_
  refine Go.icmp D (pc' := 16) (pc2 := 6) d45_3 (by decide) (by decide) rfl ?_ ?_
  · intro (hc3 : c < (55296 : Int32))
    refine Go.iconst D (pc' := 17) d45_16 rfl (v := (0 : Int32)) rfl ?_
    refine Go.zret D rfl rfl d45_17 (by decide) (by decide) ?_
    exact ⟨rfl, rfl, rfl⟩
  · intro (hc3 : ¬ c < (55296 : Int32))
    refine Go.iloadN D (pc' := 7) d45_6 rfl rfl ?_
    refine Go.ldcInt D (pc' := 9) (hw _ (List.mem_of_getElem? (i := 234) rfl)) d45_7 rfl ?_
    refine Go.icmp D (pc' := 16) (pc2 := 12) d45_9 (by decide) (by decide) rfl ?_ ?_
    · intro (hc9 : ¬ c < (57344 : Int32))
      refine Go.iconst D (pc' := 17) d45_16 rfl (v := (0 : Int32)) rfl ?_
      refine Go.zret D rfl rfl d45_17 (by decide) (by decide) ?_
      exact ⟨rfl, rfl, rfl⟩
    · intro (hc9 : c < (57344 : Int32))
      refine Go.iconst D (pc' := 13) d45_12 rfl (v := (1 : Int32)) rfl ?_
      refine Go.goto D (pc' := 17) d45_13 (by decide) (by decide) ?_
      refine Go.zret D rfl rfl d45_17 (by decide) (by decide) ?_
      exfalso
      simp only [Int32.lt_iff_toInt_lt, show (0 : Int32).toInt = 0 from rfl, show (8 : Int32).toInt = 8 from rfl, show (32 : Int32).toInt = 32 from rfl, show (64 : Int32).toInt = 64 from rfl, show (127 : Int32).toInt = 127 from rfl, show (255 : Int32).toInt = 255 from rfl, show (256 : Int32).toInt = 256 from rfl, show (65536 : Int32).toInt = 65536 from rfl, show (55296 : Int32).toInt = 55296 from rfl, show (56320 : Int32).toInt = 56320 from rfl, show (57343 : Int32).toInt = 57343 from rfl, show (57344 : Int32).toInt = 57344 from rfl, show (16384 : Int32).toInt = 16384 from rfl] at hc hc3 hc9
      omega
abbrev y42 : MethodName := ⟨"java/lang/StringUTF16", "codePointAt", "([BIIZ)I"⟩
theorem d42_0 : decode jdk_52_method_7_code 0 = .ok (.getstatic 44, 3) := by decide +kernel
theorem d42_3 : decode jdk_52_method_7_code 3 = .ok (.ifCond .ne 16, 3) := by decide +kernel
theorem d42_6 : decode jdk_52_method_7_code 6 = .ok (.iload_n 1, 1) := by decide +kernel
theorem d42_7 : decode jdk_52_method_7_code 7 = .ok (.iload_n 2, 1) := by decide +kernel
theorem d42_8 : decode jdk_52_method_7_code 8 = .ok (.if_icmp .lt 11, 3) := by decide +kernel
theorem d42_11 : decode jdk_52_method_7_code 11 = .ok (.new 52, 3) := by decide +kernel
theorem d42_14 : decode jdk_52_method_7_code 14 = .ok (.dup, 1) := by decide +kernel
theorem d42_15 : decode jdk_52_method_7_code 15 = .ok (.invokespecial 66, 3) := by decide +kernel
theorem d42_18 : decode jdk_52_method_7_code 18 = .ok (.athrow, 1) := by decide +kernel
theorem d42_19 : decode jdk_52_method_7_code 19 = .ok (.iload_n 3, 1) := by decide +kernel
theorem d42_20 : decode jdk_52_method_7_code 20 = .ok (.ifCond .eq 8, 3) := by decide +kernel
theorem d42_23 : decode jdk_52_method_7_code 23 = .ok (.iload_n 1, 1) := by decide +kernel
theorem d42_24 : decode jdk_52_method_7_code 24 = .ok (.aload_n 0, 1) := by decide +kernel
theorem d42_25 : decode jdk_52_method_7_code 25 = .ok (.invokestatic 67, 3) := by decide +kernel
theorem d42_28 : decode jdk_52_method_7_code 28 = .ok (.aload_n 0, 1) := by decide +kernel
theorem d42_29 : decode jdk_52_method_7_code 29 = .ok (.iload_n 1, 1) := by decide +kernel
theorem d42_30 : decode jdk_52_method_7_code 30 = .ok (.invokestatic 71, 3) := by decide +kernel
theorem d42_33 : decode jdk_52_method_7_code 33 = .ok (.istore 4, 2) := by decide +kernel
theorem d42_35 : decode jdk_52_method_7_code 35 = .ok (.iload 4, 2) := by decide +kernel
theorem d42_37 : decode jdk_52_method_7_code 37 = .ok (.invokestatic 75, 3) := by decide +kernel
theorem d42_40 : decode jdk_52_method_7_code 40 = .ok (.ifCond .eq 43, 3) := by decide +kernel
theorem d42_43 : decode jdk_52_method_7_code 43 = .ok (.iinc 1 1, 3) := by decide +kernel
theorem d42_46 : decode jdk_52_method_7_code 46 = .ok (.iload_n 1, 1) := by decide +kernel
theorem d42_47 : decode jdk_52_method_7_code 47 = .ok (.iload_n 2, 1) := by decide +kernel
theorem d42_48 : decode jdk_52_method_7_code 48 = .ok (.if_icmp .ge 35, 3) := by decide +kernel
theorem d42_51 : decode jdk_52_method_7_code 51 = .ok (.iload_n 3, 1) := by decide +kernel
theorem d42_52 : decode jdk_52_method_7_code 52 = .ok (.ifCond .eq 8, 3) := by decide +kernel
theorem d42_55 : decode jdk_52_method_7_code 55 = .ok (.iload_n 1, 1) := by decide +kernel
theorem d42_56 : decode jdk_52_method_7_code 56 = .ok (.aload_n 0, 1) := by decide +kernel
theorem d42_57 : decode jdk_52_method_7_code 57 = .ok (.invokestatic 67, 3) := by decide +kernel
theorem d42_60 : decode jdk_52_method_7_code 60 = .ok (.aload_n 0, 1) := by decide +kernel
theorem d42_61 : decode jdk_52_method_7_code 61 = .ok (.iload_n 1, 1) := by decide +kernel
theorem d42_62 : decode jdk_52_method_7_code 62 = .ok (.invokestatic 71, 3) := by decide +kernel
theorem d42_65 : decode jdk_52_method_7_code 65 = .ok (.istore 5, 2) := by decide +kernel
theorem d42_67 : decode jdk_52_method_7_code 67 = .ok (.iload 5, 2) := by decide +kernel
theorem d42_69 : decode jdk_52_method_7_code 69 = .ok (.invokestatic 81, 3) := by decide +kernel
theorem d42_72 : decode jdk_52_method_7_code 72 = .ok (.ifCond .eq 11, 3) := by decide +kernel
theorem d42_75 : decode jdk_52_method_7_code 75 = .ok (.iload 4, 2) := by decide +kernel
theorem d42_77 : decode jdk_52_method_7_code 77 = .ok (.iload 5, 2) := by decide +kernel
theorem d42_79 : decode jdk_52_method_7_code 79 = .ok (.invokestatic 84, 3) := by decide +kernel
theorem d42_82 : decode jdk_52_method_7_code 82 = .ok (.ireturn, 1) := by decide +kernel
theorem d42_83 : decode jdk_52_method_7_code 83 = .ok (.iload 4, 2) := by decide +kernel
theorem d42_85 : decode jdk_52_method_7_code 85 = .ok (.ireturn, 1) := by decide +kernel
theorem pd42 : parseMethodDescriptor "([BIIZ)I" = some ⟨[(.array .byte), .int, .int, .boolean], (some .int)⟩ := by decide +kernel
theorem pn42 : plainFor y42 = true := by first | exact plainFor_of_name (by first | (simp [plainName, overriddenIn]; done) | decide +kernel) | decide +kernel | rfl
set_option maxRecDepth 65536 in
set_option maxHeartbeats 40000000 in
theorem con_cpU3 (l : Launch) (Z : State) (a0 : Array Value) (hw : ∀ d ∈ tables_1, d.before a0 Z = true) (h0 : Heap) (n0 : Nat) (σ : Sg) (b : Addr) (kb : ClassId) (cs : List Int32) (V : Arv Z h0 b kb .byte (Int32.ofNat (2 * cs.length)) ((ubl cs).map Value.int) (.int 0)) (h4 : cs.length ≤ 4) (i : Nat) (hi : i < cs.length) (hc : C16 cs[i]) (hns : ¬ (¬ cs[i] < 55296 ∧ ¬ 57343 < cs[i])) (AD : Sta Z Z.heap "java/lang/StringUTF16" "$assertionsDisabled" "Z" (.int 1)) (HI : Sta Z Z.heap "java/lang/StringUTF16" "HI_BYTE_SHIFT" "I" (.int 0)) (LO : Sta Z Z.heap "java/lang/StringUTF16" "LO_BYTE_SHIFT" "I" (.int 8)) :
    Con l Z y42 jdk_52_method_7_code 6 ((some .int)) ({ frames := 1, cells := 0, slots := 0, locals := 15 } : Room) [] #[(.ref b), (.int (Int32.ofNat i)), (.int (Int32.ofNat cs.length)), (.int (0 : Int32))] σ h0 n0 (fun v h τ => h0 = h ∧ σ = τ ∧ v = some (.int cs[i])) := by
  refine Con.of_go pn42 (ls := #[.val (.ref b), .val (.int (Int32.ofNat i)), .val (.int (Int32.ofNat cs.length)), .val (.int (0 : Int32)), .unset, .unset]) (fun m => by first | (simp [entryFrame, mkF, argsToLocals, Value.category]; done) | rfl) ?_
  intro κ D
  refine Go.getS D (pc' := 3) (hw _ (List.mem_of_getElem? (i := 194) rfl)) d42_0 rfl AD ?_
  refine Go.ifc D (pc' := 19) (pc2 := 6) d42_3 (by decide) (by decide) rfl (fun _ => ?_) (fun (hc : (1 : Int32) = 0) => absurd hc (by decide))
  refine Go.iloadN D (pc' := 20) d42_19 rfl rfl ?_
  refine Go.ifc D (pc' := 28) (pc2 := 23) d42_20 (by decide) (by decide) rfl (fun _ => ?_) (fun (hc : ¬ (0 : Int32) = 0) => absurd hc (by decide))
  refine Go.aloadN D (pc' := 29) d42_28 rfl rfl rfl ?_
  refine Go.iloadN D (pc' := 30) d42_29 rfl rfl ?_
  refine Go.callS D (argsL := [(.ref b), (.int (Int32.ofNat i))]) (rest := []) (pc' := 33) (ce' := 0) (sl' := 0) (con_gch l Z a0 hw h0 n0 σ b kb cs V h4 i hi hc AD HI LO) (hw _ (List.mem_of_getElem? (i := 197) rfl)) (hw _ (List.mem_of_getElem? (i := 198) rfl)) (hw _ (List.mem_of_getElem? (i := 28) rfl)) (hw _ (List.mem_of_getElem? (i := 199) rfl)) (by decide) d42_30 rfl pd40 rfl rfl rfl (by decide) (W := 0) rfl (by decide) (by decide) (by decide) (by decide) (by decide) ?_
  intro v30 h30 σ30 q30
  obtain ⟨rfl, rfl, rfl⟩ := q30
  show Go κ σ h0 0 0 33 #[.val (.ref b), .val (.int (Int32.ofNat i)), .val (.int (Int32.ofNat cs.length)), .val (.int (0 : Int32)), .unset, .unset] [(.int cs[i])]
  refine Go.istore D (pc' := 35) d42_33 rfl (ls' := #[.val (.ref b), .val (.int (Int32.ofNat i)), .val (.int (Int32.ofNat cs.length)), .val (.int (0 : Int32)), .val (.int cs[i]), .unset]) rfl ?_
  refine Go.iload D (pc' := 37) d42_35 rfl rfl ?_
  refine Go.callS D (argsL := [(.int cs[i])]) (rest := []) (pc' := 40) (ce' := 0) (sl' := 0) (con_ihs l Z a0 hw h0 n0 σ cs[i] hns) (hw _ (List.mem_of_getElem? (i := 206) rfl)) (hw _ (List.mem_of_getElem? (i := 207) rfl)) (hw _ (List.mem_of_getElem? (i := 122) rfl)) (hw _ (List.mem_of_getElem? (i := 208) rfl)) (by decide) d42_37 rfl pd43 rfl rfl rfl (by decide) (W := 0) rfl (by decide) (by decide) (by decide) (by decide) (by decide) ?_
  intro v37 h37 σ37 q37
  obtain ⟨rfl, rfl, rfl⟩ := q37
  show Go κ σ h0 0 0 40 #[.val (.ref b), .val (.int (Int32.ofNat i)), .val (.int (Int32.ofNat cs.length)), .val (.int (0 : Int32)), .val (.int cs[i]), .unset] [(.int (0 : Int32))]
  refine Go.ifc D (pc' := 83) (pc2 := 43) d42_40 (by decide) (by decide) rfl (fun _ => ?_) (fun (hc : ¬ (0 : Int32) = 0) => absurd hc (by decide))
  refine Go.iload D (pc' := 85) d42_83 rfl rfl ?_
  refine Go.iret D rfl d42_85 (by decide) (by decide) ?_
  exact ⟨rfl, rfl, rfl⟩
abbrev y41 : MethodName := ⟨"java/lang/StringUTF16", "codePointAt", "([BII)I"⟩
theorem d41_0 : decode jdk_52_method_8_code 0 = .ok (.aload_n 0, 1) := by decide +kernel
theorem d41_1 : decode jdk_52_method_8_code 1 = .ok (.iload_n 1, 1) := by decide +kernel
theorem d41_2 : decode jdk_52_method_8_code 2 = .ok (.iload_n 2, 1) := by decide +kernel
theorem d41_3 : decode jdk_52_method_8_code 3 = .ok (.iconst 0, 1) := by decide +kernel
theorem d41_4 : decode jdk_52_method_8_code 4 = .ok (.invokestatic 88, 3) := by decide +kernel
theorem d41_7 : decode jdk_52_method_8_code 7 = .ok (.ireturn, 1) := by decide +kernel
theorem pd41 : parseMethodDescriptor "([BII)I" = some ⟨[(.array .byte), .int, .int], (some .int)⟩ := by decide +kernel
theorem pn41 : plainFor y41 = true := by first | exact plainFor_of_name (by first | (simp [plainName, overriddenIn]; done) | decide +kernel) | decide +kernel | rfl
set_option maxRecDepth 65536 in
set_option maxHeartbeats 40000000 in
theorem con_cpU2 (l : Launch) (Z : State) (a0 : Array Value) (hw : ∀ d ∈ tables_1, d.before a0 Z = true) (h0 : Heap) (n0 : Nat) (σ : Sg) (b : Addr) (kb : ClassId) (cs : List Int32) (V : Arv Z h0 b kb .byte (Int32.ofNat (2 * cs.length)) ((ubl cs).map Value.int) (.int 0)) (h4 : cs.length ≤ 4) (i : Nat) (hi : i < cs.length) (hc : C16 cs[i]) (hns : ¬ (¬ cs[i] < 55296 ∧ ¬ 57343 < cs[i])) (AD : Sta Z Z.heap "java/lang/StringUTF16" "$assertionsDisabled" "Z" (.int 1)) (HI : Sta Z Z.heap "java/lang/StringUTF16" "HI_BYTE_SHIFT" "I" (.int 0)) (LO : Sta Z Z.heap "java/lang/StringUTF16" "LO_BYTE_SHIFT" "I" (.int 8)) :
    Con l Z y41 jdk_52_method_8_code 3 ((some .int)) ({ frames := 2, cells := 0, slots := 0, locals := 32 } : Room) [] #[(.ref b), (.int (Int32.ofNat i)), (.int (Int32.ofNat cs.length))] σ h0 n0 (fun v h τ => h0 = h ∧ σ = τ ∧ v = some (.int cs[i])) := by
  refine Con.of_go pn41 (ls := #[.val (.ref b), .val (.int (Int32.ofNat i)), .val (.int (Int32.ofNat cs.length))]) (fun m => by first | (simp [entryFrame, mkF, argsToLocals, Value.category]; done) | rfl) ?_
  intro κ D
  refine Go.aloadN D (pc' := 1) d41_0 rfl rfl rfl ?_
  refine Go.iloadN D (pc' := 2) d41_1 rfl rfl ?_
  refine Go.iloadN D (pc' := 3) d41_2 rfl rfl ?_
  refine Go.iconst D (pc' := 4) d41_3 rfl (v := (0 : Int32)) rfl ?_
  refine Go.callS D (argsL := [(.ref b), (.int (Int32.ofNat i)), (.int (Int32.ofNat cs.length)), (.int (0 : Int32))]) (rest := []) (pc' := 7) (ce' := 0) (sl' := 0) (con_cpU3 l Z a0 hw h0 n0 σ b kb cs V h4 i hi hc hns AD HI LO) (hw _ (List.mem_of_getElem? (i := 203) rfl)) (hw _ (List.mem_of_getElem? (i := 204) rfl)) (hw _ (List.mem_of_getElem? (i := 28) rfl)) (hw _ (List.mem_of_getElem? (i := 205) rfl)) (by decide) d41_4 rfl pd42 rfl rfl rfl (by decide) (W := 0) rfl (by decide) (by decide) (by decide) (by decide) (by decide) ?_
  intro v4 h4 σ4 q4
  obtain ⟨rfl, rfl, rfl⟩ := q4
  show Go κ σ h0 0 0 7 #[.val (.ref b), .val (.int (Int32.ofNat i)), .val (.int (Int32.ofNat cs.length))] [(.int cs[i])]
  refine Go.iret D rfl d41_7 (by decide) (by decide) ?_
  exact ⟨rfl, rfl, rfl⟩
theorem d26_27 : decode jdk_42_method_57_code 27 = .ok (.aload_n 0, 1) := by decide +kernel
theorem d26_28 : decode jdk_42_method_57_code 28 = .ok (.getfield 9, 3) := by decide +kernel
theorem d26_31 : decode jdk_42_method_57_code 31 = .ok (.arraylength, 1) := by decide +kernel
theorem d26_32 : decode jdk_42_method_57_code 32 = .ok (.iconst 1, 1) := by decide +kernel
theorem d26_33 : decode jdk_42_method_57_code 33 = .ok (.ishr, 1) := by decide +kernel
theorem d26_34 : decode jdk_42_method_57_code 34 = .ok (.istore_n 2, 1) := by decide +kernel
theorem d26_35 : decode jdk_42_method_57_code 35 = .ok (.iload_n 1, 1) := by decide +kernel
theorem d26_36 : decode jdk_42_method_57_code 36 = .ok (.iload_n 2, 1) := by decide +kernel
theorem d26_37 : decode jdk_42_method_57_code 37 = .ok (.invokestatic 499, 3) := by decide +kernel
theorem d26_40 : decode jdk_42_method_57_code 40 = .ok (.aload_n 0, 1) := by decide +kernel
theorem d26_41 : decode jdk_42_method_57_code 41 = .ok (.getfield 9, 3) := by decide +kernel
theorem d26_44 : decode jdk_42_method_57_code 44 = .ok (.iload_n 1, 1) := by decide +kernel
theorem d26_45 : decode jdk_42_method_57_code 45 = .ok (.iload_n 2, 1) := by decide +kernel
theorem d26_46 : decode jdk_42_method_57_code 46 = .ok (.invokestatic 502, 3) := by decide +kernel
theorem d26_49 : decode jdk_42_method_57_code 49 = .ok (.ireturn, 1) := by decide +kernel
set_option maxRecDepth 65536 in
set_option maxHeartbeats 40000000 in
theorem con_cpaW (l : Launch) (Z : State) (a0 : Array Value) (hw : ∀ d ∈ tables_1, d.before a0 Z = true) (h0 : Heap) (n0 : Nat) (σ : Sg) (s : Addr) (cs : List Int32) (S : Wd Z h0 s cs) (i : Nat) (hi : i < cs.length) (hns : ¬ (¬ cs[i] < 55296 ∧ ¬ 57343 < cs[i])) (cz : Int32) (hcz : ¬ cz = 0) (O2 : Sta Z Z.heap "java/lang/String" "COMPACT_STRINGS" "Z" (.int cz)) (fm : Value) (rf : fm.isRef = true) (O4 : Sta Z Z.heap "jdk/internal/util/Preconditions" "SIOOBE_FORMATTER" "Ljava/util/function/BiFunction;" fm) (AD : Sta Z Z.heap "java/lang/StringUTF16" "$assertionsDisabled" "Z" (.int 1)) (HI : Sta Z Z.heap "java/lang/StringUTF16" "HI_BYTE_SHIFT" "I" (.int 0)) (LO : Sta Z Z.heap "java/lang/StringUTF16" "LO_BYTE_SHIFT" "I" (.int 8)) :
    Con l Z y26 jdk_42_method_57_code 3 ((some .int)) ({ frames := 3, cells := 0, slots := 0, locals := 50 } : Room) [] #[(.ref s), (.int (Int32.ofNat i))] σ h0 n0 (fun v h τ => h0 = h ∧ σ = τ ∧ v = some (.int cs[i])) := by
  refine Con.of_go pn26 (ls := #[.val (.ref s), .val (.int (Int32.ofNat i)), .unset]) (fun m => by first | (simp [entryFrame, mkF, argsToLocals, Value.category]; done) | rfl) ?_
  intro κ D
  obtain ⟨⟨e1, e2, b, kb, e3, e4⟩, h16, h4, hbig⟩ := id S
  refine Go.aloadN D (pc' := 1) d26_0 rfl rfl rfl ?_
  refine Go.callV D (argsL := []) (rest := []) (pc' := 4) (ce' := 0) (sl' := 0) (con_sislW l Z a0 hw h0 n0 σ s e2 cz hcz O2) (hw _ (List.mem_of_getElem? (i := 86) rfl)) (hw _ (List.mem_of_getElem? (i := 87) rfl)) (hw _ (List.mem_of_getElem? (i := 89) rfl)) (hw _ (List.mem_of_getElem? (i := 88) rfl)) (hw _ (List.mem_of_getElem? (i := 13) rfl)) (hw _ (List.mem_of_getElem? (i := 90) rfl)) (nfS (hw _ (List.mem_of_getElem? (i := 89) rfl))) (by decide) e1 d26_1 rfl pd19 rfl rfl rfl (by decide) (W := 0) rfl (by decide) (by decide) (by decide) (by decide) (by decide) ?_
  intro v1 h1 σ1 q1
  obtain ⟨rfl, rfl, rfl⟩ := q1
  show Go κ σ h0 0 0 4 #[.val (.ref s), .val (.int (Int32.ofNat i)), .unset] [(.int (0 : Int32))]
  refine Go.ifc D (pc' := 27) (pc2 := 7) d26_4 (by decide) (by decide) rfl (fun _ => ?_) (fun (hc : ¬ (0 : Int32) = 0) => absurd hc (by decide))
  refine Go.aloadN D (pc' := 28) d26_27 rfl rfl rfl ?_
  refine Go.getF D (pc' := 31) (hw _ (List.mem_of_getElem? (i := 39) rfl)) d26_28 rfl e3 ?_
  refine Go.alen D (pc' := 32) d26_31 rfl e4 ?_
  refine Go.iconst D (pc' := 33) d26_32 rfl (v := (1 : Int32)) rfl ?_
  refine Go.ishr D (pc' := 34) d26_33 rfl  ?_
  rw [own_shr1 (by omega)]
  refine Go.istoreN D (pc' := 35) d26_34 rfl (ls' := #[.val (.ref s), .val (.int (Int32.ofNat i)), .val (.int (Int32.ofNat cs.length))]) rfl ?_
  refine Go.iloadN D (pc' := 36) d26_35 rfl rfl ?_
  refine Go.iloadN D (pc' := 37) d26_36 rfl rfl ?_
  refine Go.callS D (argsL := [(.int (Int32.ofNat i)), (.int (Int32.ofNat cs.length))]) (rest := []) (pc' := 40) (ce' := 0) (sl' := 0) (con_sci l Z a0 hw h0 n0 σ (Int32.ofNat i) (Int32.ofNat cs.length) (own_nn (by omega)) ((own_lt (by omega) (by omega)).mpr hi) fm rf O4) (hw _ (List.mem_of_getElem? (i := 118) rfl)) (hw _ (List.mem_of_getElem? (i := 96) rfl)) (hw _ (List.mem_of_getElem? (i := 13) rfl)) (hw _ (List.mem_of_getElem? (i := 97) rfl)) (by decide) d26_37 rfl pd21 rfl rfl rfl (by decide) (W := 0) rfl (by decide) (by decide) (by decide) (by decide) (by decide) ?_
  intro v37 h37 σ37 q37
  obtain ⟨rfl, rfl, rfl⟩ := q37
  show Go κ σ h0 0 0 40 #[.val (.ref s), .val (.int (Int32.ofNat i)), .val (.int (Int32.ofNat cs.length))] []
  refine Go.aloadN D (pc' := 41) d26_40 rfl rfl rfl ?_
  refine Go.getF D (pc' := 44) (hw _ (List.mem_of_getElem? (i := 39) rfl)) d26_41 rfl e3 ?_
  refine Go.iloadN D (pc' := 45) d26_44 rfl rfl ?_
  refine Go.iloadN D (pc' := 46) d26_45 rfl rfl ?_
  refine Go.callS D (argsL := [(.ref b), (.int (Int32.ofNat i)), (.int (Int32.ofNat cs.length))]) (rest := []) (pc' := 49) (ce' := 0) (sl' := 0) (con_cpU2 l Z a0 hw h0 n0 σ b kb cs e4 h4 i hi (h16 _ (List.getElem_mem hi)) hns AD HI LO) (hw _ (List.mem_of_getElem? (i := 200) rfl)) (hw _ (List.mem_of_getElem? (i := 201) rfl)) (hw _ (List.mem_of_getElem? (i := 28) rfl)) (hw _ (List.mem_of_getElem? (i := 202) rfl)) (by decide) d26_46 rfl pd41 rfl rfl rfl (by decide) (W := 0) rfl (by decide) (by decide) (by decide) (by decide) (by decide) ?_
  intro v46 h46 σ46 q46
  obtain ⟨rfl, rfl, rfl⟩ := q46
  show Go κ σ h0 0 0 49 #[.val (.ref s), .val (.int (Int32.ofNat i)), .val (.int (Int32.ofNat cs.length))] [(.int cs[i])]
  refine Go.iret D rfl d26_49 (by decide) (by decide) ?_
  exact ⟨rfl, rfl, rfl⟩
set_option maxRecDepth 65536 in
set_option maxHeartbeats 40000000 in
theorem con_pairsW (l : Launch) (Z : State) (a0 : Array Value) (hw : ∀ d ∈ tables_1, d.before a0 Z = true) (h0 : Heap) (n0 : Nat) (σ : Sg) (s : Addr) (cs : List Int32) (S : Wd Z h0 s cs) (hid : ∀ c ∈ cs, IdW c) (cz : Int32) (hcz : ¬ cz = 0) (O2 : Sta Z Z.heap "java/lang/String" "COMPACT_STRINGS" "Z" (.int cz)) (fm : Value) (rf : fm.isRef = true) (O4 : Sta Z Z.heap "jdk/internal/util/Preconditions" "SIOOBE_FORMATTER" "Ljava/util/function/BiFunction;" fm) (AD : Sta Z Z.heap "java/lang/StringUTF16" "$assertionsDisabled" "Z" (.int 1)) (HI : Sta Z Z.heap "java/lang/StringUTF16" "HI_BYTE_SHIFT" "I" (.int 0)) (LO : Sta Z Z.heap "java/lang/StringUTF16" "LO_BYTE_SHIFT" "I" (.int 8)) :
    Con l Z y25 prog_3_method_8_code 3 ((some .boolean)) ({ frames := 4, cells := 0, slots := 0, locals := 70 } : Room) [] #[(.ref s)] σ h0 n0 (fun v h τ => h0 = h ∧ σ = τ ∧ v = some (.int 1)) := by
  refine Con.of_go pn25 (ls := #[.val (.ref s), .unset, .unset]) (fun m => by first | (simp [entryFrame, mkF, argsToLocals, Value.category]; done) | rfl) ?_
  intro κ D
  have hl := S.2.2.1
  have loop : ∀ (N i : Nat) (s2 : Slot), cs.length - i = N → i ≤ cs.length → (s2 = .unset ∨ ∃ w, s2 = .val w ∧ w.category = 1) → Go κ σ h0 0 0 2 #[.val (.ref s), .val (.int (Int32.ofNat i)), s2] [] := by
    intro N
    induction N using Nat.strongRecOn with
    | _ N ih =>
      intro i s2 hN hi0 hs2
      refine Go.iloadN D (pc' := 3) d25_2 rfl rfl ?_
      refine Go.aloadN D (pc' := 4) d25_3 rfl rfl rfl ?_
      refine Go.callV D (argsL := []) (rest := [(.int (Int32.ofNat i))]) (pc' := 7) (ce' := 0) (sl' := 0) (con_slenW l Z a0 hw h0 n0 σ s cs S cz hcz O2) (hw _ (List.mem_of_getElem? (i := 68) rfl)) (hw _ (List.mem_of_getElem? (i := 69) rfl)) (hw _ (List.mem_of_getElem? (i := 71) rfl)) (hw _ (List.mem_of_getElem? (i := 70) rfl)) (hw _ (List.mem_of_getElem? (i := 13) rfl)) (hw _ (List.mem_of_getElem? (i := 72) rfl)) (nfS (hw _ (List.mem_of_getElem? (i := 71) rfl))) (by decide) S.1.1 d25_4 rfl pd15 rfl rfl rfl (by decide) (W := 1) rfl (by decide) (by decide) (by decide) (by decide) (by decide) ?_
      intro v4 h4 σ4 q4
      obtain ⟨rfl, rfl, rfl⟩ := q4
      show Go κ σ h0 0 0 7 #[.val (.ref s), .val (.int (Int32.ofNat i)), s2] [(.int (Int32.ofNat cs.length)), (.int (Int32.ofNat i))]
      refine Go.icmp D (pc' := 40) (pc2 := 10) d25_7 (by decide) (by decide) rfl ?_ ?_
      · intro (hc7 : ¬ (Int32.ofNat i) < (Int32.ofNat cs.length))
        refine Go.iconst D (pc' := 41) d25_40 rfl (v := (1 : Int32)) rfl ?_
        refine Go.zret D rfl rfl d25_41 (by decide) (by decide) ?_
        exact ⟨rfl, rfl, rfl⟩
      · intro (hc7 : (Int32.ofNat i) < (Int32.ofNat cs.length))
        have hi : i < cs.length := (own_lt (by omega) (by omega)).mp hc7
        have hw0 := hid _ (List.getElem_mem hi)
        refine Go.aloadN D (pc' := 11) d25_10 rfl rfl rfl ?_
        refine Go.iloadN D (pc' := 12) d25_11 rfl rfl ?_
        refine Go.callV D (argsL := [(.int (Int32.ofNat i))]) (rest := []) (pc' := 15) (ce' := 0) (sl' := 0) (con_cpaW l Z a0 hw h0 n0 σ s cs S i hi hw0.2.2.2 cz hcz O2 fm rf O4 AD HI LO) (hw _ (List.mem_of_getElem? (i := 113) rfl)) (hw _ (List.mem_of_getElem? (i := 114) rfl)) (hw _ (List.mem_of_getElem? (i := 116) rfl)) (hw _ (List.mem_of_getElem? (i := 115) rfl)) (hw _ (List.mem_of_getElem? (i := 13) rfl)) (hw _ (List.mem_of_getElem? (i := 117) rfl)) (nfS (hw _ (List.mem_of_getElem? (i := 116) rfl))) (by decide) S.1.1 d25_12 rfl pd26 rfl rfl rfl (by decide) (W := 0) rfl (by decide) (by decide) (by decide) (by decide) (by decide) ?_
        intro v12 h12 σ12 q12
        obtain ⟨rfl, rfl, rfl⟩ := q12
        show Go κ σ h0 0 0 15 #[.val (.ref s), .val (.int (Int32.ofNat i)), s2] [(.int cs[i])]
        refine Go.istoreNU D (pc' := 16) d25_15 rfl rfl hs2 (ls' := #[.val (.ref s), .val (.int (Int32.ofNat i)), .val (.int cs[i])]) rfl ?_
        refine Go.iloadN D (pc' := 17) d25_16 rfl rfl ?_
        refine Go.ldcInt D (pc' := 19) (hw _ (List.mem_of_getElem? (i := 119) rfl)) d25_17 rfl ?_
        refine Go.icmp D (pc' := 30) (pc2 := 22) d25_19 (by decide) (by decide) rfl ?_ ?_
        · intro (hc19 : cs[i] < (55296 : Int32))
          refine Go.iloadN D (pc' := 31) d25_30 rfl rfl ?_
          refine Go.iloadN D (pc' := 32) d25_31 rfl rfl ?_
          refine Go.callS D (argsL := [(.int cs[i])]) (rest := [(.int (Int32.ofNat i))]) (pc' := 35) (ce' := 0) (sl' := 0) (con_cct l Z a0 hw h0 n0 σ cs[i] hw0.2.1) (hw _ (List.mem_of_getElem? (i := 120) rfl)) (hw _ (List.mem_of_getElem? (i := 121) rfl)) (hw _ (List.mem_of_getElem? (i := 122) rfl)) (hw _ (List.mem_of_getElem? (i := 123) rfl)) (by decide) d25_32 rfl pd27 rfl rfl rfl (by decide) (W := 1) rfl (by decide) (by decide) (by decide) (by decide) (by decide) ?_
          intro v32 h32 σ32 q32
          obtain ⟨rfl, rfl, rfl⟩ := q32
          show Go κ σ h0 0 0 35 #[.val (.ref s), .val (.int (Int32.ofNat i)), .val (.int cs[i])] [(.int (1 : Int32)), (.int (Int32.ofNat i))]
          refine Go.iadd D (pc' := 36) d25_35 rfl  ?_
          refine Go.istoreN D (pc' := 37) d25_36 rfl (ls' := #[.val (.ref s), .val (.int ((Int32.ofNat i) + (1 : Int32))), .val (.int cs[i])]) rfl ?_
          refine Go.goto D (pc' := 2) d25_37 (by decide) (by decide) ?_
          rw [own_succ]
          exact ih (cs.length - (i + 1)) (by omega) (i + 1) _ rfl (by omega) (Or.inr ⟨_, rfl, rfl⟩)
        · intro (hc19 : ¬ cs[i] < (55296 : Int32))
          refine Go.iloadN D (pc' := 23) d25_22 rfl rfl ?_
          refine Go.ldcInt D (pc' := 25) (hw _ (List.mem_of_getElem? (i := 233) rfl)) d25_23 rfl ?_
          refine Go.icmp D (pc' := 30) (pc2 := 28) d25_25 (by decide) (by decide) rfl ?_ ?_
          · intro (hc25 : (57343 : Int32) < cs[i])
            refine Go.iloadN D (pc' := 31) d25_30 rfl rfl ?_
            refine Go.iloadN D (pc' := 32) d25_31 rfl rfl ?_
            refine Go.callS D (argsL := [(.int cs[i])]) (rest := [(.int (Int32.ofNat i))]) (pc' := 35) (ce' := 0) (sl' := 0) (con_cct l Z a0 hw h0 n0 σ cs[i] hw0.2.1) (hw _ (List.mem_of_getElem? (i := 120) rfl)) (hw _ (List.mem_of_getElem? (i := 121) rfl)) (hw _ (List.mem_of_getElem? (i := 122) rfl)) (hw _ (List.mem_of_getElem? (i := 123) rfl)) (by decide) d25_32 rfl pd27 rfl rfl rfl (by decide) (W := 1) rfl (by decide) (by decide) (by decide) (by decide) (by decide) ?_
            intro v32 h32 σ32 q32
            obtain ⟨rfl, rfl, rfl⟩ := q32
            show Go κ σ h0 0 0 35 #[.val (.ref s), .val (.int (Int32.ofNat i)), .val (.int cs[i])] [(.int (1 : Int32)), (.int (Int32.ofNat i))]
            refine Go.iadd D (pc' := 36) d25_35 rfl  ?_
            refine Go.istoreN D (pc' := 37) d25_36 rfl (ls' := #[.val (.ref s), .val (.int ((Int32.ofNat i) + (1 : Int32))), .val (.int cs[i])]) rfl ?_
            refine Go.goto D (pc' := 2) d25_37 (by decide) (by decide) ?_
            rw [own_succ]
            exact ih (cs.length - (i + 1)) (by omega) (i + 1) _ rfl (by omega) (Or.inr ⟨_, rfl, rfl⟩)
          · intro (hc25 : ¬ (57343 : Int32) < cs[i])
            exact absurd ⟨hc19, hc25⟩ hw0.2.2.2
  refine Go.iconst D (pc' := 1) d25_0 rfl (v := (0 : Int32)) rfl ?_
  refine Go.istoreN D (pc' := 2) d25_1 rfl (ls' := #[.val (.ref s), .val (.int (0 : Int32)), .unset]) rfl ?_
  exact loop (cs.length - 0) 0 _ rfl (by omega) (Or.inl rfl)
set_option maxRecDepth 65536 in
set_option maxHeartbeats 40000000 in
theorem con_ctrlW (l : Launch) (Z : State) (a0 : Array Value) (hw : ∀ d ∈ tables_1, d.before a0 Z = true) (h0 : Heap) (n0 : Nat) (σ : Sg) (s : Addr) (cs : List Int32) (S : Wd Z h0 s cs) (hid : ∀ c ∈ cs, IdW c) (cz : Int32) (hcz : ¬ cz = 0) (O2 : Sta Z Z.heap "java/lang/String" "COMPACT_STRINGS" "Z" (.int cz)) (fm : Value) (rf : fm.isRef = true) (O4 : Sta Z Z.heap "jdk/internal/util/Preconditions" "SIOOBE_FORMATTER" "Ljava/util/function/BiFunction;" fm) (AD : Sta Z Z.heap "java/lang/StringUTF16" "$assertionsDisabled" "Z" (.int 1)) (HI : Sta Z Z.heap "java/lang/StringUTF16" "HI_BYTE_SHIFT" "I" (.int 0)) (LO : Sta Z Z.heap "java/lang/StringUTF16" "LO_BYTE_SHIFT" "I" (.int 8)) :
    Con l Z y33 prog_3_method_9_code 3 ((some .boolean)) ({ frames := 5, cells := 0, slots := 0, locals := 75 } : Room) [] #[(.ref s)] σ h0 n0 (fun v h τ => h0 = h ∧ σ = τ ∧ v = some (.int 0)) := by
  refine Con.of_go pn33 (ls := #[.val (.ref s), .unset, .unset]) (fun m => by first | (simp [entryFrame, mkF, argsToLocals, Value.category]; done) | rfl) ?_
  intro κ D
  have hl := S.2.2.1
  have loop : ∀ (N i : Nat) (s2 : Slot), cs.length - i = N → i ≤ cs.length → (s2 = .unset ∨ ∃ w, s2 = .val w ∧ w.category = 1) → Go κ σ h0 0 0 2 #[.val (.ref s), .val (.int (Int32.ofNat i)), s2] [] := by
    intro N
    induction N using Nat.strongRecOn with
    | _ N ih =>
      intro i s2 hN hi0 hs2
      refine Go.iloadN D (pc' := 3) d33_2 rfl rfl ?_
      refine Go.aloadN D (pc' := 4) d33_3 rfl rfl rfl ?_
      refine Go.callV D (argsL := []) (rest := [(.int (Int32.ofNat i))]) (pc' := 7) (ce' := 0) (sl' := 0) (con_slenW l Z a0 hw h0 n0 σ s cs S cz hcz O2) (hw _ (List.mem_of_getElem? (i := 68) rfl)) (hw _ (List.mem_of_getElem? (i := 69) rfl)) (hw _ (List.mem_of_getElem? (i := 71) rfl)) (hw _ (List.mem_of_getElem? (i := 70) rfl)) (hw _ (List.mem_of_getElem? (i := 13) rfl)) (hw _ (List.mem_of_getElem? (i := 72) rfl)) (nfS (hw _ (List.mem_of_getElem? (i := 71) rfl))) (by decide) S.1.1 d33_4 rfl pd15 rfl rfl rfl (by decide) (W := 1) rfl (by decide) (by decide) (by decide) (by decide) (by decide) ?_
      intro v4 h4 σ4 q4
      obtain ⟨rfl, rfl, rfl⟩ := q4
      show Go κ σ h0 0 0 7 #[.val (.ref s), .val (.int (Int32.ofNat i)), s2] [(.int (Int32.ofNat cs.length)), (.int (Int32.ofNat i))]
      refine Go.icmp D (pc' := 36) (pc2 := 10) d33_7 (by decide) (by decide) rfl ?_ ?_
      · intro (hc7 : ¬ (Int32.ofNat i) < (Int32.ofNat cs.length))
        refine Go.iconst D (pc' := 37) d33_36 rfl (v := (0 : Int32)) rfl ?_
        refine Go.zret D rfl rfl d33_37 (by decide) (by decide) ?_
        exact ⟨rfl, rfl, rfl⟩
      · intro (hc7 : (Int32.ofNat i) < (Int32.ofNat cs.length))
        have hi : i < cs.length := (own_lt (by omega) (by omega)).mp hc7
        have hw0 := hid _ (List.getElem_mem hi)
        refine Go.aloadN D (pc' := 11) d33_10 rfl rfl rfl ?_
        refine Go.iloadN D (pc' := 12) d33_11 rfl rfl ?_
        refine Go.callV D (argsL := [(.int (Int32.ofNat i))]) (rest := []) (pc' := 15) (ce' := 0) (sl' := 0) (con_chAtW l Z a0 hw h0 n0 σ s cs S i hi cz hcz O2 fm rf O4 AD HI LO) (hw _ (List.mem_of_getElem? (i := 81) rfl)) (hw _ (List.mem_of_getElem? (i := 82) rfl)) (hw _ (List.mem_of_getElem? (i := 84) rfl)) (hw _ (List.mem_of_getElem? (i := 83) rfl)) (hw _ (List.mem_of_getElem? (i := 13) rfl)) (hw _ (List.mem_of_getElem? (i := 85) rfl)) (nfS (hw _ (List.mem_of_getElem? (i := 84) rfl))) (by decide) S.1.1 d33_12 rfl pd18 rfl rfl rfl (by decide) (W := 0) rfl (by decide) (by decide) (by decide) (by decide) (by decide) ?_
        intro v12 h12 σ12 q12
        obtain ⟨rfl, rfl, rfl⟩ := q12
        show Go κ σ h0 0 0 15 #[.val (.ref s), .val (.int (Int32.ofNat i)), s2] [(.int cs[i])]
        refine Go.istoreNU D (pc' := 16) d33_15 rfl rfl hs2 (ls' := #[.val (.ref s), .val (.int (Int32.ofNat i)), .val (.int cs[i])]) rfl ?_
        refine Go.iloadN D (pc' := 17) d33_16 rfl rfl ?_
        refine Go.bipush D (pc' := 19) d33_17 rfl (v := (32 : Int32)) rfl ?_
        refine Go.icmp D (pc' := 28) (pc2 := 22) d33_19 (by decide) (by decide) rfl ?_ ?_
        · intro (hc19 : cs[i] < (32 : Int32))
          exact absurd hc19 hw0.1
        · intro (hc19 : ¬ cs[i] < (32 : Int32))
          refine Go.iloadN D (pc' := 23) d33_22 rfl rfl ?_
          refine Go.bipush D (pc' := 25) d33_23 rfl (v := (127 : Int32)) rfl ?_
          refine Go.icmp D (pc' := 30) (pc2 := 28) d33_25 (by decide) (by decide) rfl ?_ ?_
          · intro (hc25 : ¬ cs[i] = (127 : Int32))
            refine Go.iinc D (pc' := 33) d33_30 rfl rfl (d := (1 : Int32)) rfl (ls' := #[.val (.ref s), .val (.int ((Int32.ofNat i) + (1 : Int32))), .val (.int cs[i])]) rfl ?_
            refine Go.goto D (pc' := 2) d33_33 (by decide) (by decide) ?_
            rw [own_succ]
            exact ih (cs.length - (i + 1)) (by omega) (i + 1) _ rfl (by omega) (Or.inr ⟨_, rfl, rfl⟩)
          · intro (hc25 : cs[i] = (127 : Int32))
            exact absurd hc25 hw0.2.2.1
  refine Go.iconst D (pc' := 1) d33_0 rfl (v := (0 : Int32)) rfl ?_
  refine Go.istoreN D (pc' := 2) d33_1 rfl (ls' := #[.val (.ref s), .val (.int (0 : Int32)), .unset]) rfl ?_
  exact loop (cs.length - 0) 0 _ rfl (by omega) (Or.inl rfl)
theorem m3_tab : ∀ i : Fin 3, (Int32.ofNat i.1 * (3 : Int32)) = Int32.ofNat (3 * i.1) := by decide
abbrev y44 : MethodName := ⟨"java/lang/String", "encodeUTF8_UTF16", "([BZ)[B"⟩
theorem d44_0 : decode jdk_42_method_47_code 0 = .ok (.iconst 0, 1) := by decide +kernel
theorem d44_1 : decode jdk_42_method_47_code 1 = .ok (.istore_n 2, 1) := by decide +kernel
theorem d44_2 : decode jdk_42_method_47_code 2 = .ok (.iconst 0, 1) := by decide +kernel
theorem d44_3 : decode jdk_42_method_47_code 3 = .ok (.istore_n 3, 1) := by decide +kernel
theorem d44_4 : decode jdk_42_method_47_code 4 = .ok (.aload_n 0, 1) := by decide +kernel
theorem d44_5 : decode jdk_42_method_47_code 5 = .ok (.arraylength, 1) := by decide +kernel
theorem d44_6 : decode jdk_42_method_47_code 6 = .ok (.iconst 1, 1) := by decide +kernel
theorem d44_7 : decode jdk_42_method_47_code 7 = .ok (.ishr, 1) := by decide +kernel
theorem d44_8 : decode jdk_42_method_47_code 8 = .ok (.istore 4, 2) := by decide +kernel
theorem d44_10 : decode jdk_42_method_47_code 10 = .ok (.iload 4, 2) := by decide +kernel
theorem d44_12 : decode jdk_42_method_47_code 12 = .ok (.iconst 3, 1) := by decide +kernel
theorem d44_13 : decode jdk_42_method_47_code 13 = .ok (.imul, 1) := by decide +kernel
theorem d44_14 : decode jdk_42_method_47_code 14 = .ok (.newarray .byte, 2) := by decide +kernel
theorem d44_16 : decode jdk_42_method_47_code 16 = .ok (.astore 5, 2) := by decide +kernel
theorem d44_18 : decode jdk_42_method_47_code 18 = .ok (.iload_n 3, 1) := by decide +kernel
theorem d44_19 : decode jdk_42_method_47_code 19 = .ok (.iload 4, 2) := by decide +kernel
theorem d44_21 : decode jdk_42_method_47_code 21 = .ok (.if_icmp .ge 37, 3) := by decide +kernel
theorem d44_24 : decode jdk_42_method_47_code 24 = .ok (.aload_n 0, 1) := by decide +kernel
theorem d44_25 : decode jdk_42_method_47_code 25 = .ok (.iload_n 3, 1) := by decide +kernel
theorem d44_26 : decode jdk_42_method_47_code 26 = .ok (.invokestatic 360, 3) := by decide +kernel
theorem d44_29 : decode jdk_42_method_47_code 29 = .ok (.istore 6, 2) := by decide +kernel
theorem d44_31 : decode jdk_42_method_47_code 31 = .ok (.iload 6, 2) := by decide +kernel
theorem d44_33 : decode jdk_42_method_47_code 33 = .ok (.sipush 128, 3) := by decide +kernel
theorem d44_36 : decode jdk_42_method_47_code 36 = .ok (.if_icmp .lt 6, 3) := by decide +kernel
theorem d44_39 : decode jdk_42_method_47_code 39 = .ok (.goto 19, 3) := by decide +kernel
theorem d44_42 : decode jdk_42_method_47_code 42 = .ok (.aload 5, 2) := by decide +kernel
theorem d44_44 : decode jdk_42_method_47_code 44 = .ok (.iload_n 2, 1) := by decide +kernel
theorem d44_45 : decode jdk_42_method_47_code 45 = .ok (.iinc 2 1, 3) := by decide +kernel
theorem d44_48 : decode jdk_42_method_47_code 48 = .ok (.iload 6, 2) := by decide +kernel
theorem d44_50 : decode jdk_42_method_47_code 50 = .ok (.i2b, 1) := by decide +kernel
theorem d44_51 : decode jdk_42_method_47_code 51 = .ok (.bastore, 1) := by decide +kernel
theorem d44_52 : decode jdk_42_method_47_code 52 = .ok (.iinc 3 1, 3) := by decide +kernel
theorem d44_55 : decode jdk_42_method_47_code 55 = .ok (.goto (-37), 3) := by decide +kernel
theorem d44_58 : decode jdk_42_method_47_code 58 = .ok (.iload_n 3, 1) := by decide +kernel
theorem d44_59 : decode jdk_42_method_47_code 59 = .ok (.iload 4, 2) := by decide +kernel
theorem d44_61 : decode jdk_42_method_47_code 61 = .ok (.if_icmp .ge 294, 3) := by decide +kernel
theorem d44_64 : decode jdk_42_method_47_code 64 = .ok (.aload_n 0, 1) := by decide +kernel
theorem d44_65 : decode jdk_42_method_47_code 65 = .ok (.iload_n 3, 1) := by decide +kernel
theorem d44_66 : decode jdk_42_method_47_code 66 = .ok (.iinc 3 1, 3) := by decide +kernel
theorem d44_69 : decode jdk_42_method_47_code 69 = .ok (.invokestatic 360, 3) := by decide +kernel
theorem d44_72 : decode jdk_42_method_47_code 72 = .ok (.istore 6, 2) := by decide +kernel
theorem d44_74 : decode jdk_42_method_47_code 74 = .ok (.iload 6, 2) := by decide +kernel
theorem d44_76 : decode jdk_42_method_47_code 76 = .ok (.sipush 128, 3) := by decide +kernel
theorem d44_79 : decode jdk_42_method_47_code 79 = .ok (.if_icmp .ge 16, 3) := by decide +kernel
theorem d44_82 : decode jdk_42_method_47_code 82 = .ok (.aload 5, 2) := by decide +kernel
theorem d44_84 : decode jdk_42_method_47_code 84 = .ok (.iload_n 2, 1) := by decide +kernel
theorem d44_85 : decode jdk_42_method_47_code 85 = .ok (.iinc 2 1, 3) := by decide +kernel
theorem d44_88 : decode jdk_42_method_47_code 88 = .ok (.iload 6, 2) := by decide +kernel
theorem d44_90 : decode jdk_42_method_47_code 90 = .ok (.i2b, 1) := by decide +kernel
theorem d44_91 : decode jdk_42_method_47_code 91 = .ok (.bastore, 1) := by decide +kernel
theorem d44_92 : decode jdk_42_method_47_code 92 = .ok (.goto 260, 3) := by decide +kernel
theorem d44_95 : decode jdk_42_method_47_code 95 = .ok (.iload 6, 2) := by decide +kernel
theorem d44_97 : decode jdk_42_method_47_code 97 = .ok (.sipush 2048, 3) := by decide +kernel
theorem d44_100 : decode jdk_42_method_47_code 100 = .ok (.if_icmp .ge 40, 3) := by decide +kernel
theorem d44_103 : decode jdk_42_method_47_code 103 = .ok (.aload 5, 2) := by decide +kernel
theorem d44_105 : decode jdk_42_method_47_code 105 = .ok (.iload_n 2, 1) := by decide +kernel
theorem d44_106 : decode jdk_42_method_47_code 106 = .ok (.iinc 2 1, 3) := by decide +kernel
theorem d44_109 : decode jdk_42_method_47_code 109 = .ok (.sipush 192, 3) := by decide +kernel
theorem d44_112 : decode jdk_42_method_47_code 112 = .ok (.iload 6, 2) := by decide +kernel
theorem d44_114 : decode jdk_42_method_47_code 114 = .ok (.bipush 6, 2) := by decide +kernel
theorem d44_116 : decode jdk_42_method_47_code 116 = .ok (.ishr, 1) := by decide +kernel
theorem d44_117 : decode jdk_42_method_47_code 117 = .ok (.ior, 1) := by decide +kernel
theorem d44_118 : decode jdk_42_method_47_code 118 = .ok (.i2b, 1) := by decide +kernel
theorem d44_119 : decode jdk_42_method_47_code 119 = .ok (.bastore, 1) := by decide +kernel
theorem d44_120 : decode jdk_42_method_47_code 120 = .ok (.aload 5, 2) := by decide +kernel
theorem d44_122 : decode jdk_42_method_47_code 122 = .ok (.iload_n 2, 1) := by decide +kernel
theorem d44_123 : decode jdk_42_method_47_code 123 = .ok (.iinc 2 1, 3) := by decide +kernel
theorem d44_126 : decode jdk_42_method_47_code 126 = .ok (.sipush 128, 3) := by decide +kernel
theorem d44_129 : decode jdk_42_method_47_code 129 = .ok (.iload 6, 2) := by decide +kernel
theorem d44_131 : decode jdk_42_method_47_code 131 = .ok (.bipush 63, 2) := by decide +kernel
theorem d44_133 : decode jdk_42_method_47_code 133 = .ok (.iand, 1) := by decide +kernel
theorem d44_134 : decode jdk_42_method_47_code 134 = .ok (.ior, 1) := by decide +kernel
theorem d44_135 : decode jdk_42_method_47_code 135 = .ok (.i2b, 1) := by decide +kernel
theorem d44_136 : decode jdk_42_method_47_code 136 = .ok (.bastore, 1) := by decide +kernel
theorem d44_137 : decode jdk_42_method_47_code 137 = .ok (.goto 215, 3) := by decide +kernel
theorem d44_140 : decode jdk_42_method_47_code 140 = .ok (.iload 6, 2) := by decide +kernel
theorem d44_142 : decode jdk_42_method_47_code 142 = .ok (.invokestatic 404, 3) := by decide +kernel
theorem d44_145 : decode jdk_42_method_47_code 145 = .ok (.ifCond .eq 153, 3) := by decide +kernel
theorem d44_148 : decode jdk_42_method_47_code 148 = .ok (.iconst (-1), 1) := by decide +kernel
theorem d44_149 : decode jdk_42_method_47_code 149 = .ok (.istore 7, 2) := by decide +kernel
theorem d44_151 : decode jdk_42_method_47_code 151 = .ok (.iload 6, 2) := by decide +kernel
theorem d44_153 : decode jdk_42_method_47_code 153 = .ok (.invokestatic 364, 3) := by decide +kernel
theorem d44_156 : decode jdk_42_method_47_code 156 = .ok (.ifCond .eq 32, 3) := by decide +kernel
theorem d44_159 : decode jdk_42_method_47_code 159 = .ok (.iload_n 3, 1) := by decide +kernel
theorem d44_160 : decode jdk_42_method_47_code 160 = .ok (.iload 4, 2) := by decide +kernel
theorem d44_162 : decode jdk_42_method_47_code 162 = .ok (.if_icmp .ge 26, 3) := by decide +kernel
theorem d44_165 : decode jdk_42_method_47_code 165 = .ok (.aload_n 0, 1) := by decide +kernel
theorem d44_166 : decode jdk_42_method_47_code 166 = .ok (.iload_n 3, 1) := by decide +kernel
theorem d44_167 : decode jdk_42_method_47_code 167 = .ok (.invokestatic 360, 3) := by decide +kernel
theorem d44_170 : decode jdk_42_method_47_code 170 = .ok (.dup, 1) := by decide +kernel
theorem d44_171 : decode jdk_42_method_47_code 171 = .ok (.istore 8, 2) := by decide +kernel
theorem d44_173 : decode jdk_42_method_47_code 173 = .ok (.invokestatic 370, 3) := by decide +kernel
theorem d44_176 : decode jdk_42_method_47_code 176 = .ok (.ifCond .eq 12, 3) := by decide +kernel
theorem d44_179 : decode jdk_42_method_47_code 179 = .ok (.iload 6, 2) := by decide +kernel
theorem d44_181 : decode jdk_42_method_47_code 181 = .ok (.iload 8, 2) := by decide +kernel
theorem d44_183 : decode jdk_42_method_47_code 183 = .ok (.invokestatic 477, 3) := by decide +kernel
theorem d44_186 : decode jdk_42_method_47_code 186 = .ok (.istore 7, 2) := by decide +kernel
theorem d44_188 : decode jdk_42_method_47_code 188 = .ok (.iload 7, 2) := by decide +kernel
theorem d44_190 : decode jdk_42_method_47_code 190 = .ok (.ifCond .ge 28, 3) := by decide +kernel
theorem d44_193 : decode jdk_42_method_47_code 193 = .ok (.iload_n 1, 1) := by decide +kernel
theorem d44_194 : decode jdk_42_method_47_code 194 = .ok (.ifCond .eq 15, 3) := by decide +kernel
theorem d44_197 : decode jdk_42_method_47_code 197 = .ok (.aload 5, 2) := by decide +kernel
theorem d44_199 : decode jdk_42_method_47_code 199 = .ok (.iload_n 2, 1) := by decide +kernel
theorem d44_200 : decode jdk_42_method_47_code 200 = .ok (.iinc 2 1, 3) := by decide +kernel
theorem d44_203 : decode jdk_42_method_47_code 203 = .ok (.bipush 63, 2) := by decide +kernel
theorem d44_205 : decode jdk_42_method_47_code 205 = .ok (.bastore, 1) := by decide +kernel
theorem d44_206 : decode jdk_42_method_47_code 206 = .ok (.goto 89, 3) := by decide +kernel
theorem d44_209 : decode jdk_42_method_47_code 209 = .ok (.iload_n 3, 1) := by decide +kernel
theorem d44_210 : decode jdk_42_method_47_code 210 = .ok (.iconst 1, 1) := by decide +kernel
theorem d44_211 : decode jdk_42_method_47_code 211 = .ok (.isub, 1) := by decide +kernel
theorem d44_212 : decode jdk_42_method_47_code 212 = .ok (.invokestatic 377, 3) := by decide +kernel
theorem d44_215 : decode jdk_42_method_47_code 215 = .ok (.goto 80, 3) := by decide +kernel
theorem d44_218 : decode jdk_42_method_47_code 218 = .ok (.aload 5, 2) := by decide +kernel
theorem d44_220 : decode jdk_42_method_47_code 220 = .ok (.iload_n 2, 1) := by decide +kernel
theorem d44_221 : decode jdk_42_method_47_code 221 = .ok (.iinc 2 1, 3) := by decide +kernel
theorem d44_224 : decode jdk_42_method_47_code 224 = .ok (.sipush 240, 3) := by decide +kernel
theorem d44_227 : decode jdk_42_method_47_code 227 = .ok (.iload 7, 2) := by decide +kernel
theorem d44_229 : decode jdk_42_method_47_code 229 = .ok (.bipush 18, 2) := by decide +kernel
theorem d44_231 : decode jdk_42_method_47_code 231 = .ok (.ishr, 1) := by decide +kernel
theorem d44_232 : decode jdk_42_method_47_code 232 = .ok (.ior, 1) := by decide +kernel
theorem d44_233 : decode jdk_42_method_47_code 233 = .ok (.i2b, 1) := by decide +kernel
theorem d44_234 : decode jdk_42_method_47_code 234 = .ok (.bastore, 1) := by decide +kernel
theorem d44_235 : decode jdk_42_method_47_code 235 = .ok (.aload 5, 2) := by decide +kernel
theorem d44_237 : decode jdk_42_method_47_code 237 = .ok (.iload_n 2, 1) := by decide +kernel
theorem d44_238 : decode jdk_42_method_47_code 238 = .ok (.iinc 2 1, 3) := by decide +kernel
theorem d44_241 : decode jdk_42_method_47_code 241 = .ok (.sipush 128, 3) := by decide +kernel
theorem d44_244 : decode jdk_42_method_47_code 244 = .ok (.iload 7, 2) := by decide +kernel
theorem d44_246 : decode jdk_42_method_47_code 246 = .ok (.bipush 12, 2) := by decide +kernel
theorem d44_248 : decode jdk_42_method_47_code 248 = .ok (.ishr, 1) := by decide +kernel
theorem d44_249 : decode jdk_42_method_47_code 249 = .ok (.bipush 63, 2) := by decide +kernel
theorem d44_251 : decode jdk_42_method_47_code 251 = .ok (.iand, 1) := by decide +kernel
theorem d44_252 : decode jdk_42_method_47_code 252 = .ok (.ior, 1) := by decide +kernel
theorem d44_253 : decode jdk_42_method_47_code 253 = .ok (.i2b, 1) := by decide +kernel
theorem d44_254 : decode jdk_42_method_47_code 254 = .ok (.bastore, 1) := by decide +kernel
theorem d44_255 : decode jdk_42_method_47_code 255 = .ok (.aload 5, 2) := by decide +kernel
theorem d44_257 : decode jdk_42_method_47_code 257 = .ok (.iload_n 2, 1) := by decide +kernel
theorem d44_258 : decode jdk_42_method_47_code 258 = .ok (.iinc 2 1, 3) := by decide +kernel
theorem d44_261 : decode jdk_42_method_47_code 261 = .ok (.sipush 128, 3) := by decide +kernel
theorem d44_264 : decode jdk_42_method_47_code 264 = .ok (.iload 7, 2) := by decide +kernel
theorem d44_266 : decode jdk_42_method_47_code 266 = .ok (.bipush 6, 2) := by decide +kernel
theorem d44_268 : decode jdk_42_method_47_code 268 = .ok (.ishr, 1) := by decide +kernel
theorem d44_269 : decode jdk_42_method_47_code 269 = .ok (.bipush 63, 2) := by decide +kernel
theorem d44_271 : decode jdk_42_method_47_code 271 = .ok (.iand, 1) := by decide +kernel
theorem d44_272 : decode jdk_42_method_47_code 272 = .ok (.ior, 1) := by decide +kernel
theorem d44_273 : decode jdk_42_method_47_code 273 = .ok (.i2b, 1) := by decide +kernel
theorem d44_274 : decode jdk_42_method_47_code 274 = .ok (.bastore, 1) := by decide +kernel
theorem d44_275 : decode jdk_42_method_47_code 275 = .ok (.aload 5, 2) := by decide +kernel
theorem d44_277 : decode jdk_42_method_47_code 277 = .ok (.iload_n 2, 1) := by decide +kernel
theorem d44_278 : decode jdk_42_method_47_code 278 = .ok (.iinc 2 1, 3) := by decide +kernel
theorem d44_281 : decode jdk_42_method_47_code 281 = .ok (.sipush 128, 3) := by decide +kernel
theorem d44_284 : decode jdk_42_method_47_code 284 = .ok (.iload 7, 2) := by decide +kernel
theorem d44_286 : decode jdk_42_method_47_code 286 = .ok (.bipush 63, 2) := by decide +kernel
theorem d44_288 : decode jdk_42_method_47_code 288 = .ok (.iand, 1) := by decide +kernel
theorem d44_289 : decode jdk_42_method_47_code 289 = .ok (.ior, 1) := by decide +kernel
theorem d44_290 : decode jdk_42_method_47_code 290 = .ok (.i2b, 1) := by decide +kernel
theorem d44_291 : decode jdk_42_method_47_code 291 = .ok (.bastore, 1) := by decide +kernel
theorem d44_292 : decode jdk_42_method_47_code 292 = .ok (.iinc 3 1, 3) := by decide +kernel
theorem d44_295 : decode jdk_42_method_47_code 295 = .ok (.goto 57, 3) := by decide +kernel
theorem d44_298 : decode jdk_42_method_47_code 298 = .ok (.aload 5, 2) := by decide +kernel
theorem d44_300 : decode jdk_42_method_47_code 300 = .ok (.iload_n 2, 1) := by decide +kernel
theorem d44_301 : decode jdk_42_method_47_code 301 = .ok (.iinc 2 1, 3) := by decide +kernel
theorem d44_304 : decode jdk_42_method_47_code 304 = .ok (.sipush 224, 3) := by decide +kernel
theorem d44_307 : decode jdk_42_method_47_code 307 = .ok (.iload 6, 2) := by decide +kernel
theorem d44_309 : decode jdk_42_method_47_code 309 = .ok (.bipush 12, 2) := by decide +kernel
theorem d44_311 : decode jdk_42_method_47_code 311 = .ok (.ishr, 1) := by decide +kernel
theorem d44_312 : decode jdk_42_method_47_code 312 = .ok (.ior, 1) := by decide +kernel
theorem d44_313 : decode jdk_42_method_47_code 313 = .ok (.i2b, 1) := by decide +kernel
theorem d44_314 : decode jdk_42_method_47_code 314 = .ok (.bastore, 1) := by decide +kernel
theorem d44_315 : decode jdk_42_method_47_code 315 = .ok (.aload 5, 2) := by decide +kernel
theorem d44_317 : decode jdk_42_method_47_code 317 = .ok (.iload_n 2, 1) := by decide +kernel
theorem d44_318 : decode jdk_42_method_47_code 318 = .ok (.iinc 2 1, 3) := by decide +kernel
theorem d44_321 : decode jdk_42_method_47_code 321 = .ok (.sipush 128, 3) := by decide +kernel
theorem d44_324 : decode jdk_42_method_47_code 324 = .ok (.iload 6, 2) := by decide +kernel
theorem d44_326 : decode jdk_42_method_47_code 326 = .ok (.bipush 6, 2) := by decide +kernel
theorem d44_328 : decode jdk_42_method_47_code 328 = .ok (.ishr, 1) := by decide +kernel
theorem d44_329 : decode jdk_42_method_47_code 329 = .ok (.bipush 63, 2) := by decide +kernel
theorem d44_331 : decode jdk_42_method_47_code 331 = .ok (.iand, 1) := by decide +kernel
theorem d44_332 : decode jdk_42_method_47_code 332 = .ok (.ior, 1) := by decide +kernel
theorem d44_333 : decode jdk_42_method_47_code 333 = .ok (.i2b, 1) := by decide +kernel
theorem d44_334 : decode jdk_42_method_47_code 334 = .ok (.bastore, 1) := by decide +kernel
theorem d44_335 : decode jdk_42_method_47_code 335 = .ok (.aload 5, 2) := by decide +kernel
theorem d44_337 : decode jdk_42_method_47_code 337 = .ok (.iload_n 2, 1) := by decide +kernel
theorem d44_338 : decode jdk_42_method_47_code 338 = .ok (.iinc 2 1, 3) := by decide +kernel
theorem d44_341 : decode jdk_42_method_47_code 341 = .ok (.sipush 128, 3) := by decide +kernel
theorem d44_344 : decode jdk_42_method_47_code 344 = .ok (.iload 6, 2) := by decide +kernel
theorem d44_346 : decode jdk_42_method_47_code 346 = .ok (.bipush 63, 2) := by decide +kernel
theorem d44_348 : decode jdk_42_method_47_code 348 = .ok (.iand, 1) := by decide +kernel
theorem d44_349 : decode jdk_42_method_47_code 349 = .ok (.ior, 1) := by decide +kernel
theorem d44_350 : decode jdk_42_method_47_code 350 = .ok (.i2b, 1) := by decide +kernel
theorem d44_351 : decode jdk_42_method_47_code 351 = .ok (.bastore, 1) := by decide +kernel
theorem d44_352 : decode jdk_42_method_47_code 352 = .ok (.goto (-294), 3) := by decide +kernel
theorem d44_355 : decode jdk_42_method_47_code 355 = .ok (.iload_n 2, 1) := by decide +kernel
theorem d44_356 : decode jdk_42_method_47_code 356 = .ok (.aload 5, 2) := by decide +kernel
theorem d44_358 : decode jdk_42_method_47_code 358 = .ok (.arraylength, 1) := by decide +kernel
theorem d44_359 : decode jdk_42_method_47_code 359 = .ok (.if_icmp .ne 6, 3) := by decide +kernel
theorem d44_362 : decode jdk_42_method_47_code 362 = .ok (.aload 5, 2) := by decide +kernel
theorem d44_364 : decode jdk_42_method_47_code 364 = .ok (.areturn, 1) := by decide +kernel
theorem d44_365 : decode jdk_42_method_47_code 365 = .ok (.aload 5, 2) := by decide +kernel
theorem d44_367 : decode jdk_42_method_47_code 367 = .ok (.iload_n 2, 1) := by decide +kernel
theorem d44_368 : decode jdk_42_method_47_code 368 = .ok (.invokestatic 102, 3) := by decide +kernel
theorem d44_371 : decode jdk_42_method_47_code 371 = .ok (.areturn, 1) := by decide +kernel
theorem pd44 : parseMethodDescriptor "([BZ)[B" = some ⟨[(.array .byte), .boolean], (some (.array .byte))⟩ := by decide +kernel
theorem pn44 : plainFor y44 = true := by first | exact plainFor_of_name (by first | (simp [plainName, overriddenIn]; done) | decide +kernel) | decide +kernel | rfl
set_option maxRecDepth 65536 in
set_option maxHeartbeats 40000000 in
theorem con_eu16 (l : Launch) (Z : State) (a0 : Array Value) (hw : ∀ d ∈ tables_1, d.before a0 Z = true) (h0 : Heap) (n0 : Nat) (Z0 : n0 ≤ h0.size) (σ : Sg) (b : Addr) (kb : ClassId) (cs : List Int32) (B : Arv Z h0 b kb .byte (Int32.ofNat (2 * cs.length)) ((ubl cs).map Value.int) (.int 0)) (h4 : cs.length ≤ 2) (h16 : ∀ c ∈ cs, C16 c) (hid : ∀ c ∈ cs, IdW c) (AD : Sta Z Z.heap "java/lang/StringUTF16" "$assertionsDisabled" "Z" (.int 1)) (HI : Sta Z Z.heap "java/lang/StringUTF16" "HI_BYTE_SHIFT" "I" (.int 0)) (LO : Sta Z Z.heap "java/lang/StringUTF16" "LO_BYTE_SHIFT" "I" (.int 8)) :
    Con l Z y44 jdk_42_method_47_code 9 ((some (.array .byte))) ({ frames := 2, cells := 2, slots := 16, locals := 80 } : Room) [] #[(.ref b), (.int (1 : Int32))] σ h0 n0 (fun v h τ => σ = τ ∧ ∃ d kd n vs, v = some (.ref d) ∧ h0.size ≤ d ∧ Ext h0 h ∧ Arv Z h d kd .byte (Int32.ofNat n) vs (.int 0) ∧ cs.length ≤ n ∧ n ≤ 3 * cs.length) := by
  refine Con.of_go pn44 (ls := #[.val (.ref b), .val (.int (1 : Int32)), .unset, .unset, .unset, .unset, .unset, .unset, .unset]) (fun m => by first | (simp [entryFrame, mkF, argsToLocals, Value.category]; done) | rfl) ?_
  intro κ D
  refine Go.iconst D (pc' := 1) d44_0 rfl (v := (0 : Int32)) rfl ?_
  refine Go.istoreN D (pc' := 2) d44_1 rfl (ls' := #[.val (.ref b), .val (.int (1 : Int32)), .val (.int (0 : Int32)), .unset, .unset, .unset, .unset, .unset, .unset]) rfl ?_
  refine Go.iconst D (pc' := 3) d44_2 rfl (v := (0 : Int32)) rfl ?_
  refine Go.istoreN D (pc' := 4) d44_3 rfl (ls' := #[.val (.ref b), .val (.int (1 : Int32)), .val (.int (0 : Int32)), .val (.int (0 : Int32)), .unset, .unset, .unset, .unset, .unset]) rfl ?_
  refine Go.aloadN D (pc' := 5) d44_4 rfl rfl rfl ?_
  refine Go.alen D (pc' := 6) d44_5 rfl B ?_
  refine Go.iconst D (pc' := 7) d44_6 rfl (v := (1 : Int32)) rfl ?_
  refine Go.ishr D (pc' := 8) d44_7 rfl  ?_
  rw [own_shr1 (by omega)]
  refine Go.istore D (pc' := 10) d44_8 rfl (ls' := #[.val (.ref b), .val (.int (1 : Int32)), .val (.int (0 : Int32)), .val (.int (0 : Int32)), .val (.int (Int32.ofNat cs.length)), .unset, .unset, .unset, .unset]) rfl ?_
  refine Go.iload D (pc' := 12) d44_10 rfl rfl ?_
  refine Go.iconst D (pc' := 13) d44_12 rfl (v := (3 : Int32)) rfl ?_
  refine Go.imul D (pc' := 14) d44_13 rfl  ?_
  rw [m3_tab ⟨cs.length, by omega⟩]
  refine Go.newP D (pc' := 16) (aty := .byte) (cap := 8) (ce' := 1) (sl' := 8) (hw _ (List.mem_of_getElem? (i := 30) rfl)) d44_14 rfl (own_nn (by omega)) (by rw [own_tn (by omega)]; omega) (by decide) rfl rfl (by decide) (by decide) ?_
  intro h1 d kd gd E1 D1
  have gd : h0.size ≤ d := by omega
  have gd' : n0 ≤ d := Nat.le_trans Z0 gd
  have nbd : b ≠ d := own_ne (by have := own_ltn B.lt; omega)
  have D1' := D1.pad (vs' := List.replicate (3 * cs.length) (.int 0)) (fun i => pad_rep [] (.int 0) (3 * cs.length) i)
  refine Go.astore D (pc' := 18) d44_16 rfl rfl (ls' := #[.val (.ref b), .val (.int (1 : Int32)), .val (.int (0 : Int32)), .val (.int (0 : Int32)), .val (.int (Int32.ofNat cs.length)), .val (.ref d), .unset, .unset, .unset]) rfl ?_
  have loop2 : ∀ (N i p : Nat) (h : Heap) (vs : List Value) (s6 : Slot), cs.length - i = N → i ≤ cs.length → i ≤ p → p ≤ 3 * i → vs.length = 3 * cs.length → Keep h1 h [d] → Arv Z h d kd .byte (Int32.ofNat (3 * cs.length)) vs (.int 0) → (s6 = .unset ∨ ∃ w, s6 = .val w ∧ w.category = 1) → Go κ σ h 1 8 58 #[.val (.ref b), .val (.int (1 : Int32)), .val (.int (Int32.ofNat p)), .val (.int (Int32.ofNat i)), .val (.int (Int32.ofNat cs.length)), .val (.ref d), s6, .unset, .unset] [] := by
    intro N
    induction N using Nat.strongRecOn with
    | _ N ih =>
      intro i p h vs s6 hN hi0 q1 q2 hvl K V hs6
      refine Go.iloadN D (pc' := 59) d44_58 rfl rfl ?_
      refine Go.iload D (pc' := 61) d44_59 rfl rfl ?_
      refine Go.icmp D (pc' := 355) (pc2 := 64) d44_61 (by decide) (by decide) rfl ?_ ?_
      · intro (hc61 : ¬ (Int32.ofNat i) < (Int32.ofNat cs.length))
        have hi : i = cs.length := by
          have : ¬ i < cs.length := fun q => hc61 ((own_lt (by omega) (by omega)).mpr q)
          omega
        have zz : n0 ≤ h.size := Nat.le_trans (Nat.le_trans Z0 E1.1) K.1
        have EE := E1.keepN K (by omega)
        refine Go.iloadN D (pc' := 356) d44_355 rfl rfl ?_
        refine Go.aload D (pc' := 358) d44_356 rfl rfl rfl ?_
        refine Go.alen D (pc' := 359) d44_358 rfl V ?_
        refine Go.icmp D (pc' := 365) (pc2 := 362) d44_359 (by decide) (by decide) rfl ?_ ?_
        · intro (hc359 : ¬ (Int32.ofNat p) = (Int32.ofNat (3 * cs.length)))
          refine Go.aload D (pc' := 367) d44_365 rfl rfl rfl ?_
          refine Go.iloadN D (pc' := 368) d44_367 rfl rfl ?_
          have hpl : p < 3 * cs.length := by
            rcases Nat.lt_or_eq_of_le (show p ≤ 3 * cs.length by omega) with q | q
            · exact q
            · exact absurd (by rw [q]) hc359
          refine Go.callS D (argsL := [(.ref d), (.int (Int32.ofNat p))]) (rest := []) (pc' := 371) (ce' := 2) (sl' := 16) (con_cpB l Z a0 hw h n0 zz σ d kd (3 * cs.length) p vs V hpl (by omega)) (hw _ (List.mem_of_getElem? (i := 235) rfl)) (hw _ (List.mem_of_getElem? (i := 236) rfl)) (hw _ (List.mem_of_getElem? (i := 237) rfl)) (hw _ (List.mem_of_getElem? (i := 238) rfl)) (by decide) d44_368 rfl pd50 rfl rfl rfl (by decide) (W := 0) rfl (by decide) (by decide) (by decide) (by decide) (by decide) ?_
          intro v368 h368 σ368 q368
          obtain ⟨rfl, d2, k2, vs2, rfl, g2, E2, V2⟩ := q368
          show Go κ σ h368 2 16 371 #[.val (.ref b), .val (.int (1 : Int32)), .val (.int (Int32.ofNat p)), .val (.int (Int32.ofNat i)), .val (.int (Int32.ofNat cs.length)), .val (.ref d), s6, .unset, .unset] [(.ref d2)]
          refine Go.aret D rfl rfl rfl d44_371 (by decide) (by decide) ?_
          exact ⟨rfl, d2, k2, p, vs2, rfl, Nat.le_trans EE.1 g2, EE.tr E2, V2, by omega, by omega⟩
        · intro (hc359 : (Int32.ofNat p) = (Int32.ofNat (3 * cs.length)))
          refine Go.aload D (pc' := 364) d44_362 rfl rfl rfl ?_
          refine Go.aret D rfl rfl rfl d44_364 (by decide) (by decide) ?_
          exact ⟨rfl, d, kd, 3 * cs.length, vs, rfl, gd, EE, V, by omega, by omega⟩
      · intro (hc61 : (Int32.ofNat i) < (Int32.ofNat cs.length))
        have hi : i < cs.length := (own_lt (by omega) (by omega)).mp hc61
        refine Go.aloadN D (pc' := 65) d44_64 rfl rfl rfl ?_
        refine Go.iloadN D (pc' := 66) d44_65 rfl rfl ?_
        refine Go.iinc D (pc' := 69) d44_66 rfl rfl (d := (1 : Int32)) rfl (ls' := #[.val (.ref b), .val (.int (1 : Int32)), .val (.int (Int32.ofNat p)), .val (.int ((Int32.ofNat i) + (1 : Int32))), .val (.int (Int32.ofNat cs.length)), .val (.ref d), s6, .unset, .unset]) rfl ?_
        rw [own_succ]
        refine Go.callS D (argsL := [(.ref b), (.int (Int32.ofNat i))]) (rest := []) (pc' := 72) (ce' := 1) (sl' := 8) (con_gch l Z a0 hw h n0 σ b kb cs ((B.ext E1).keep K (nin1 nbd)) (by omega) i hi (h16 _ (List.getElem_mem hi)) AD HI LO) (hw _ (List.mem_of_getElem? (i := 213) rfl)) (hw _ (List.mem_of_getElem? (i := 198) rfl)) (hw _ (List.mem_of_getElem? (i := 28) rfl)) (hw _ (List.mem_of_getElem? (i := 199) rfl)) (by decide) d44_69 rfl pd40 rfl rfl rfl (by decide) (W := 0) rfl (by decide) (by decide) (by decide) (by decide) (by decide) ?_
        intro v69 h69 σ69 q69
        obtain ⟨rfl, rfl, rfl⟩ := q69
        show Go κ σ h 1 8 72 #[.val (.ref b), .val (.int (1 : Int32)), .val (.int (Int32.ofNat p)), .val (.int (Int32.ofNat (i + 1))), .val (.int (Int32.ofNat cs.length)), .val (.ref d), s6, .unset, .unset] [(.int cs[i])]
        refine Go.istoreU D (pc' := 74) d44_72 rfl rfl hs6 (ls' := #[.val (.ref b), .val (.int (1 : Int32)), .val (.int (Int32.ofNat p)), .val (.int (Int32.ofNat (i + 1))), .val (.int (Int32.ofNat cs.length)), .val (.ref d), .val (.int cs[i]), .unset, .unset]) rfl ?_
        refine Go.iload D (pc' := 76) d44_74 rfl rfl ?_
        refine Go.sipush D (pc' := 79) d44_76 rfl (v := (128 : Int32)) rfl ?_
        refine Go.icmp D (pc' := 95) (pc2 := 82) d44_79 (by decide) (by decide) rfl ?_ ?_
        · intro (hc79 : ¬ cs[i] < (128 : Int32))
          refine Go.iload D (pc' := 97) d44_95 rfl rfl ?_
          refine Go.sipush D (pc' := 100) d44_97 rfl (v := (2048 : Int32)) rfl ?_
          refine Go.icmp D (pc' := 140) (pc2 := 103) d44_100 (by decide) (by decide) rfl ?_ ?_
          · intro (hc100 : ¬ cs[i] < (2048 : Int32))
            refine Go.iload D (pc' := 142) d44_140 rfl rfl ?_
            refine Go.callS D (argsL := [(.int cs[i])]) (rest := []) (pc' := 145) (ce' := 1) (sl' := 8) (con_isu l Z a0 hw h n0 σ cs[i] (hid _ (List.getElem_mem hi)).2.2.2) (hw _ (List.mem_of_getElem? (i := 214) rfl)) (hw _ (List.mem_of_getElem? (i := 215) rfl)) (hw _ (List.mem_of_getElem? (i := 122) rfl)) (hw _ (List.mem_of_getElem? (i := 216) rfl)) (by decide) d44_142 rfl pd45 rfl rfl rfl (by decide) (W := 0) rfl (by decide) (by decide) (by decide) (by decide) (by decide) ?_
            intro v142 h142 σ142 q142
            obtain ⟨rfl, rfl, rfl⟩ := q142
            show Go κ σ h 1 8 145 #[.val (.ref b), .val (.int (1 : Int32)), .val (.int (Int32.ofNat p)), .val (.int (Int32.ofNat (i + 1))), .val (.int (Int32.ofNat cs.length)), .val (.ref d), .val (.int cs[i]), .unset, .unset] [(.int (0 : Int32))]
            refine Go.ifc D (pc' := 298) (pc2 := 148) d44_145 (by decide) (by decide) rfl (fun _ => ?_) (fun (hc : ¬ (0 : Int32) = 0) => absurd hc (by decide))
            refine Go.aload D (pc' := 300) d44_298 rfl rfl rfl ?_
            refine Go.iloadN D (pc' := 301) d44_300 rfl rfl ?_
            refine Go.iinc D (pc' := 304) d44_301 rfl rfl (d := (1 : Int32)) rfl (ls' := #[.val (.ref b), .val (.int (1 : Int32)), .val (.int ((Int32.ofNat p) + (1 : Int32))), .val (.int (Int32.ofNat (i + 1))), .val (.int (Int32.ofNat cs.length)), .val (.ref d), .val (.int cs[i]), .unset, .unset]) rfl ?_
            rw [own_succ]
            refine Go.sipush D (pc' := 307) d44_304 rfl (v := (224 : Int32)) rfl ?_
            refine Go.iload D (pc' := 309) d44_307 rfl rfl ?_
            refine Go.bipush D (pc' := 311) d44_309 rfl (v := (12 : Int32)) rfl ?_
            refine Go.ishr D (pc' := 312) d44_311 rfl  ?_
            refine Go.ior D (pc' := 313) d44_312 rfl  ?_
            refine Go.i2b D (pc' := 314) d44_313 rfl  ?_
            refine Go.bastore D (pc' := 315) (i := p) d44_314 rfl V (own_nn (by omega)) ((own_lt (by omega) (by omega)).mpr (by omega)) (own_tn (by omega)) (by omega) gd' rfl ?_
            intro h314 K314 V314
            have KK314 := K.trans K314 (fun x hx => Or.inl hx)
            refine Go.aload D (pc' := 317) d44_315 rfl rfl rfl ?_
            refine Go.iloadN D (pc' := 318) d44_317 rfl rfl ?_
            refine Go.iinc D (pc' := 321) d44_318 rfl rfl (d := (1 : Int32)) rfl (ls' := #[.val (.ref b), .val (.int (1 : Int32)), .val (.int ((Int32.ofNat (p + 1)) + (1 : Int32))), .val (.int (Int32.ofNat (i + 1))), .val (.int (Int32.ofNat cs.length)), .val (.ref d), .val (.int cs[i]), .unset, .unset]) rfl ?_
            rw [own_succ]
            refine Go.sipush D (pc' := 324) d44_321 rfl (v := (128 : Int32)) rfl ?_
            refine Go.iload D (pc' := 326) d44_324 rfl rfl ?_
            refine Go.bipush D (pc' := 328) d44_326 rfl (v := (6 : Int32)) rfl ?_
            refine Go.ishr D (pc' := 329) d44_328 rfl  ?_
            refine Go.bipush D (pc' := 331) d44_329 rfl (v := (63 : Int32)) rfl ?_
            refine Go.iand D (pc' := 332) d44_331 rfl  ?_
            refine Go.ior D (pc' := 333) d44_332 rfl  ?_
            refine Go.i2b D (pc' := 334) d44_333 rfl  ?_
            refine Go.bastore D (pc' := 335) (i := (p + 1)) d44_334 rfl V314 (own_nn (by omega)) ((own_lt (by omega) (by omega)).mpr (by omega)) (own_tn (by omega)) (by rw [List.length_set]; omega) gd' rfl ?_
            intro h334 K334 V334
            have KK334 := KK314.trans K334 (fun x hx => Or.inl hx)
            refine Go.aload D (pc' := 337) d44_335 rfl rfl rfl ?_
            refine Go.iloadN D (pc' := 338) d44_337 rfl rfl ?_
            refine Go.iinc D (pc' := 341) d44_338 rfl rfl (d := (1 : Int32)) rfl (ls' := #[.val (.ref b), .val (.int (1 : Int32)), .val (.int ((Int32.ofNat (p + 1 + 1)) + (1 : Int32))), .val (.int (Int32.ofNat (i + 1))), .val (.int (Int32.ofNat cs.length)), .val (.ref d), .val (.int cs[i]), .unset, .unset]) rfl ?_
            rw [own_succ]
            refine Go.sipush D (pc' := 344) d44_341 rfl (v := (128 : Int32)) rfl ?_
            refine Go.iload D (pc' := 346) d44_344 rfl rfl ?_
            refine Go.bipush D (pc' := 348) d44_346 rfl (v := (63 : Int32)) rfl ?_
            refine Go.iand D (pc' := 349) d44_348 rfl  ?_
            refine Go.ior D (pc' := 350) d44_349 rfl  ?_
            refine Go.i2b D (pc' := 351) d44_350 rfl  ?_
            refine Go.bastore D (pc' := 352) (i := (p + 1 + 1)) d44_351 rfl V334 (own_nn (by omega)) ((own_lt (by omega) (by omega)).mpr (by omega)) (own_tn (by omega)) (by rw [List.length_set, List.length_set]; omega) gd' rfl ?_
            intro h351 K351 V351
            have KK351 := KK334.trans K351 (fun x hx => Or.inl hx)
            refine Go.goto D (pc' := 58) d44_352 (by decide) (by decide) ?_
            exact ih (cs.length - (i + 1)) (by omega) (i + 1) (p + 1 + 1 + 1) h351 _ _ rfl (by omega) (by omega) (by omega) (by rw [List.length_set, List.length_set, List.length_set]; exact hvl) KK351 V351 (Or.inr ⟨_, rfl, rfl⟩)
          · intro (hc100 : cs[i] < (2048 : Int32))
            refine Go.aload D (pc' := 105) d44_103 rfl rfl rfl ?_
            refine Go.iloadN D (pc' := 106) d44_105 rfl rfl ?_
            refine Go.iinc D (pc' := 109) d44_106 rfl rfl (d := (1 : Int32)) rfl (ls' := #[.val (.ref b), .val (.int (1 : Int32)), .val (.int ((Int32.ofNat p) + (1 : Int32))), .val (.int (Int32.ofNat (i + 1))), .val (.int (Int32.ofNat cs.length)), .val (.ref d), .val (.int cs[i]), .unset, .unset]) rfl ?_
            rw [own_succ]
            refine Go.sipush D (pc' := 112) d44_109 rfl (v := (192 : Int32)) rfl ?_
            refine Go.iload D (pc' := 114) d44_112 rfl rfl ?_
            refine Go.bipush D (pc' := 116) d44_114 rfl (v := (6 : Int32)) rfl ?_
            refine Go.ishr D (pc' := 117) d44_116 rfl  ?_
            refine Go.ior D (pc' := 118) d44_117 rfl  ?_
            refine Go.i2b D (pc' := 119) d44_118 rfl  ?_
            refine Go.bastore D (pc' := 120) (i := p) d44_119 rfl V (own_nn (by omega)) ((own_lt (by omega) (by omega)).mpr (by omega)) (own_tn (by omega)) (by omega) gd' rfl ?_
            intro h119 K119 V119
            have KK119 := K.trans K119 (fun x hx => Or.inl hx)
            refine Go.aload D (pc' := 122) d44_120 rfl rfl rfl ?_
            refine Go.iloadN D (pc' := 123) d44_122 rfl rfl ?_
            refine Go.iinc D (pc' := 126) d44_123 rfl rfl (d := (1 : Int32)) rfl (ls' := #[.val (.ref b), .val (.int (1 : Int32)), .val (.int ((Int32.ofNat (p + 1)) + (1 : Int32))), .val (.int (Int32.ofNat (i + 1))), .val (.int (Int32.ofNat cs.length)), .val (.ref d), .val (.int cs[i]), .unset, .unset]) rfl ?_
            rw [own_succ]
            refine Go.sipush D (pc' := 129) d44_126 rfl (v := (128 : Int32)) rfl ?_
            refine Go.iload D (pc' := 131) d44_129 rfl rfl ?_
            refine Go.bipush D (pc' := 133) d44_131 rfl (v := (63 : Int32)) rfl ?_
            refine Go.iand D (pc' := 134) d44_133 rfl  ?_
            refine Go.ior D (pc' := 135) d44_134 rfl  ?_
            refine Go.i2b D (pc' := 136) d44_135 rfl  ?_
            refine Go.bastore D (pc' := 137) (i := (p + 1)) d44_136 rfl V119 (own_nn (by omega)) ((own_lt (by omega) (by omega)).mpr (by omega)) (own_tn (by omega)) (by rw [List.length_set]; omega) gd' rfl ?_
            intro h136 K136 V136
            have KK136 := KK119.trans K136 (fun x hx => Or.inl hx)
            refine Go.goto D (pc' := 352) d44_137 (by decide) (by decide) ?_
            refine Go.goto D (pc' := 58) d44_352 (by decide) (by decide) ?_
            exact ih (cs.length - (i + 1)) (by omega) (i + 1) (p + 1 + 1) h136 _ _ rfl (by omega) (by omega) (by omega) (by rw [List.length_set, List.length_set]; exact hvl) KK136 V136 (Or.inr ⟨_, rfl, rfl⟩)
        · intro (hc79 : cs[i] < (128 : Int32))
          refine Go.aload D (pc' := 84) d44_82 rfl rfl rfl ?_
          refine Go.iloadN D (pc' := 85) d44_84 rfl rfl ?_
          refine Go.iinc D (pc' := 88) d44_85 rfl rfl (d := (1 : Int32)) rfl (ls' := #[.val (.ref b), .val (.int (1 : Int32)), .val (.int ((Int32.ofNat p) + (1 : Int32))), .val (.int (Int32.ofNat (i + 1))), .val (.int (Int32.ofNat cs.length)), .val (.ref d), .val (.int cs[i]), .unset, .unset]) rfl ?_
          rw [own_succ]
          refine Go.iload D (pc' := 90) d44_88 rfl rfl ?_
          refine Go.i2b D (pc' := 91) d44_90 rfl  ?_
          refine Go.bastore D (pc' := 92) (i := p) d44_91 rfl V (own_nn (by omega)) ((own_lt (by omega) (by omega)).mpr (by omega)) (own_tn (by omega)) (by omega) gd' rfl ?_
          intro h91 K91 V91
          have KK91 := K.trans K91 (fun x hx => Or.inl hx)
          refine Go.goto D (pc' := 352) d44_92 (by decide) (by decide) ?_
          refine Go.goto D (pc' := 58) d44_352 (by decide) (by decide) ?_
          exact ih (cs.length - (i + 1)) (by omega) (i + 1) (p + 1) h91 _ _ rfl (by omega) (by omega) (by omega) (by rw [List.length_set]; exact hvl) KK91 V91 (Or.inr ⟨_, rfl, rfl⟩)
  have loop1 : ∀ (N i p : Nat) (h : Heap) (vs : List Value) (s6 : Slot), cs.length - i = N → i ≤ cs.length → i ≤ p → p ≤ 3 * i → vs.length = 3 * cs.length → Keep h1 h [d] → Arv Z h d kd .byte (Int32.ofNat (3 * cs.length)) vs (.int 0) → (s6 = .unset ∨ ∃ w, s6 = .val w ∧ w.category = 1) → Go κ σ h 1 8 18 #[.val (.ref b), .val (.int (1 : Int32)), .val (.int (Int32.ofNat p)), .val (.int (Int32.ofNat i)), .val (.int (Int32.ofNat cs.length)), .val (.ref d), s6, .unset, .unset] [] := by
    intro N
    induction N using Nat.strongRecOn with
    | _ N ih =>
      intro i p h vs s6 hN hi0 q1 q2 hvl K V hs6
      refine Go.iloadN D (pc' := 19) d44_18 rfl rfl ?_
      refine Go.iload D (pc' := 21) d44_19 rfl rfl ?_
      refine Go.icmp D (pc' := 58) (pc2 := 24) d44_21 (by decide) (by decide) rfl ?_ ?_
      · intro (hc21 : ¬ (Int32.ofNat i) < (Int32.ofNat cs.length))
        exact loop2 (cs.length - i) i p h vs _ rfl hi0 q1 q2 hvl K V hs6
      · intro (hc21 : (Int32.ofNat i) < (Int32.ofNat cs.length))
        have hi : i < cs.length := (own_lt (by omega) (by omega)).mp hc21
        refine Go.aloadN D (pc' := 25) d44_24 rfl rfl rfl ?_
        refine Go.iloadN D (pc' := 26) d44_25 rfl rfl ?_
        refine Go.callS D (argsL := [(.ref b), (.int (Int32.ofNat i))]) (rest := []) (pc' := 29) (ce' := 1) (sl' := 8) (con_gch l Z a0 hw h n0 σ b kb cs ((B.ext E1).keep K (nin1 nbd)) (by omega) i hi (h16 _ (List.getElem_mem hi)) AD HI LO) (hw _ (List.mem_of_getElem? (i := 213) rfl)) (hw _ (List.mem_of_getElem? (i := 198) rfl)) (hw _ (List.mem_of_getElem? (i := 28) rfl)) (hw _ (List.mem_of_getElem? (i := 199) rfl)) (by decide) d44_26 rfl pd40 rfl rfl rfl (by decide) (W := 0) rfl (by decide) (by decide) (by decide) (by decide) (by decide) ?_
        intro v26 h26 σ26 q26
        obtain ⟨rfl, rfl, rfl⟩ := q26
        show Go κ σ h 1 8 29 #[.val (.ref b), .val (.int (1 : Int32)), .val (.int (Int32.ofNat p)), .val (.int (Int32.ofNat i)), .val (.int (Int32.ofNat cs.length)), .val (.ref d), s6, .unset, .unset] [(.int cs[i])]
        refine Go.istoreU D (pc' := 31) d44_29 rfl rfl hs6 (ls' := #[.val (.ref b), .val (.int (1 : Int32)), .val (.int (Int32.ofNat p)), .val (.int (Int32.ofNat i)), .val (.int (Int32.ofNat cs.length)), .val (.ref d), .val (.int cs[i]), .unset, .unset]) rfl ?_
        refine Go.iload D (pc' := 33) d44_31 rfl rfl ?_
        refine Go.sipush D (pc' := 36) d44_33 rfl (v := (128 : Int32)) rfl ?_
        refine Go.icmp D (pc' := 42) (pc2 := 39) d44_36 (by decide) (by decide) rfl ?_ ?_
        · intro (hc36 : cs[i] < (128 : Int32))
          refine Go.aload D (pc' := 44) d44_42 rfl rfl rfl ?_
          refine Go.iloadN D (pc' := 45) d44_44 rfl rfl ?_
          refine Go.iinc D (pc' := 48) d44_45 rfl rfl (d := (1 : Int32)) rfl (ls' := #[.val (.ref b), .val (.int (1 : Int32)), .val (.int ((Int32.ofNat p) + (1 : Int32))), .val (.int (Int32.ofNat i)), .val (.int (Int32.ofNat cs.length)), .val (.ref d), .val (.int cs[i]), .unset, .unset]) rfl ?_
          rw [own_succ]
          refine Go.iload D (pc' := 50) d44_48 rfl rfl ?_
          refine Go.i2b D (pc' := 51) d44_50 rfl  ?_
          refine Go.bastore D (pc' := 52) (i := p) d44_51 rfl V (own_nn (by omega)) ((own_lt (by omega) (by omega)).mpr (by omega)) (own_tn (by omega)) (by omega) gd' rfl ?_
          intro h51 K51 V51
          have KK51 := K.trans K51 (fun x hx => Or.inl hx)
          refine Go.iinc D (pc' := 55) d44_52 rfl rfl (d := (1 : Int32)) rfl (ls' := #[.val (.ref b), .val (.int (1 : Int32)), .val (.int (Int32.ofNat (p + 1))), .val (.int ((Int32.ofNat i) + (1 : Int32))), .val (.int (Int32.ofNat cs.length)), .val (.ref d), .val (.int cs[i]), .unset, .unset]) rfl ?_
          refine Go.goto D (pc' := 18) d44_55 (by decide) (by decide) ?_
          rw [own_succ]
          exact ih (cs.length - (i + 1)) (by omega) (i + 1) (p + 1) h51 _ _ rfl (by omega) (by omega) (by omega) (by rw [List.length_set]; exact hvl) KK51 V51 (Or.inr ⟨_, rfl, rfl⟩)
        · intro (hc36 : ¬ cs[i] < (128 : Int32))
          refine Go.goto D (pc' := 58) d44_39 (by decide) (by decide) ?_
          exact loop2 (cs.length - i) i p h vs _ rfl hi0 q1 q2 hvl K V (Or.inr ⟨_, rfl, rfl⟩)
  exact loop1 (cs.length - 0) 0 0 h1 _ _ rfl (by omega) (by omega) (by omega) (by simp) (Keep.refl _ _) D1' (Or.inl rfl)
set_option maxRecDepth 65536 in
set_option maxHeartbeats 40000000 in
theorem con_eu8W (l : Launch) (Z : State) (a0 : Array Value) (hw : ∀ d ∈ tables_1, d.before a0 Z = true) (h0 : Heap) (n0 : Nat) (σ : Sg) (Z0 : n0 ≤ h0.size) (b : Addr) (kb : ClassId) (cs : List Int32) (B : Arv Z h0 b kb .byte (Int32.ofNat (2 * cs.length)) ((ubl cs).map Value.int) (.int 0)) (h4 : cs.length ≤ 2) (h16 : ∀ c ∈ cs, C16 c) (hid : ∀ c ∈ cs, IdW c) (AD : Sta Z Z.heap "java/lang/StringUTF16" "$assertionsDisabled" "Z" (.int 1)) (HI : Sta Z Z.heap "java/lang/StringUTF16" "HI_BYTE_SHIFT" "I" (.int 0)) (LO : Sta Z Z.heap "java/lang/StringUTF16" "LO_BYTE_SHIFT" "I" (.int 8)) :
    Con l Z y30 jdk_42_method_46_code 9 ((some (.array .byte))) ({ frames := 3, cells := 2, slots := 16, locals := 100 } : Room) [] #[(.int (1 : Int32)), (.ref b), (.int (1 : Int32))] σ h0 n0 (fun v h τ => σ = τ ∧ ∃ d kd n vs, v = some (.ref d) ∧ h0.size ≤ d ∧ Ext h0 h ∧ Arv Z h d kd .byte (Int32.ofNat n) vs (.int 0) ∧ cs.length ≤ n ∧ n ≤ 3 * cs.length) := by
  refine Con.of_go pn30 (ls := #[.val (.int (1 : Int32)), .val (.ref b), .val (.int (1 : Int32)), .unset, .unset, .unset, .unset, .unset, .unset]) (fun m => by first | (simp [entryFrame, mkF, argsToLocals, Value.category]; done) | rfl) ?_
  intro κ D
  refine Go.iloadN D (pc' := 1) d30_0 rfl rfl ?_
  refine Go.iconst D (pc' := 2) d30_1 rfl (v := (1 : Int32)) rfl ?_
  refine Go.icmp D (pc' := 11) (pc2 := 5) d30_2 (by decide) (by decide) rfl (fun (hc : ¬ (1 : Int32) = (1 : Int32)) => absurd hc (by decide)) (fun _ => ?_)
  refine Go.aloadN D (pc' := 6) d30_5 rfl rfl rfl ?_
  refine Go.iloadN D (pc' := 7) d30_6 rfl rfl ?_
  refine Go.callS D (argsL := [(.ref b), (.int (1 : Int32))]) (rest := []) (pc' := 10) (ce' := 2) (sl' := 16) (con_eu16 l Z a0 hw h0 n0 Z0 σ b kb cs B h4 h16 hid AD HI LO) (hw _ (List.mem_of_getElem? (i := 210) rfl)) (hw _ (List.mem_of_getElem? (i := 211) rfl)) (hw _ (List.mem_of_getElem? (i := 13) rfl)) (hw _ (List.mem_of_getElem? (i := 212) rfl)) (by decide) d30_7 rfl pd44 rfl rfl rfl (by decide) (W := 0) rfl (by decide) (by decide) (by decide) (by decide) (by decide) ?_
  intro v7 h2 σ7 q7
  obtain ⟨rfl, d, kd, n, vs, rfl, gd, E2, D2, b1, b2⟩ := q7
  show Go κ σ h2 2 16 10 #[.val (.int (1 : Int32)), .val (.ref b), .val (.int (1 : Int32)), .unset, .unset, .unset, .unset, .unset, .unset] [(.ref d)]
  refine Go.aret D rfl rfl rfl d30_10 (by decide) (by decide) ?_
  exact ⟨rfl, d, kd, n, vs, rfl, gd, E2, D2, b1, b2⟩
set_option maxRecDepth 65536 in
set_option maxHeartbeats 40000000 in
theorem con_encW (l : Launch) (Z : State) (a0 : Array Value) (hw : ∀ d ∈ tables_1, d.before a0 Z = true) (h0 : Heap) (n0 : Nat) (σ : Sg) (Z0 : n0 ≤ h0.size) (b : Addr) (kb : ClassId) (cs : List Int32) (B : Arv Z h0 b kb .byte (Int32.ofNat (2 * cs.length)) ((ubl cs).map Value.int) (.int 0)) (h4 : cs.length ≤ 2) (h16 : ∀ c ∈ cs, C16 c) (hid : ∀ c ∈ cs, IdW c) (AD : Sta Z Z.heap "java/lang/StringUTF16" "$assertionsDisabled" "Z" (.int 1)) (HI : Sta Z Z.heap "java/lang/StringUTF16" "HI_BYTE_SHIFT" "I" (.int 0)) (LO : Sta Z Z.heap "java/lang/StringUTF16" "LO_BYTE_SHIFT" "I" (.int 8)) (u8 : Addr) (U1 : Sta Z Z.heap "java/nio/charset/StandardCharsets" "UTF_8" "Ljava/nio/charset/Charset;" (.ref u8)) (U2 : Sta Z Z.heap "sun/nio/cs/UTF_8" "INSTANCE" "Lsun/nio/cs/UTF_8;" (.ref u8)) :
    Con l Z y29 jdk_42_method_18_code 3 ((some (.array .byte))) ({ frames := 4, cells := 2, slots := 16, locals := 122 } : Room) [] #[(.ref u8), (.int (1 : Int32)), (.ref b)] σ h0 n0 (fun v h τ => σ = τ ∧ ∃ d kd n vs, v = some (.ref d) ∧ h0.size ≤ d ∧ Ext h0 h ∧ Arv Z h d kd .byte (Int32.ofNat n) vs (.int 0) ∧ cs.length ≤ n ∧ n ≤ 3 * cs.length) := by
  refine Con.of_go pn29 (ls := #[.val (.ref u8), .val (.int (1 : Int32)), .val (.ref b)]) (fun m => by first | (simp [entryFrame, mkF, argsToLocals, Value.category]; done) | rfl) ?_
  intro κ D
  refine Go.aloadN D (pc' := 1) d29_0 rfl rfl rfl ?_
  refine Go.getS D (pc' := 4) (hw _ (List.mem_of_getElem? (i := 135) rfl)) d29_1 rfl U2 ?_
  refine Go.acmpNe D (pc' := 14) (pc2 := 7) rfl rfl d29_4 (by decide) (by decide) rfl ?_ ?_
  · intro (hc4 : ¬ (.ref u8 : Value) = .ref u8)
    exact absurd rfl hc4
  · intro (hc4 : (.ref u8 : Value) = .ref u8)
    refine Go.iloadN D (pc' := 8) d29_7 rfl rfl ?_
    refine Go.aloadN D (pc' := 9) d29_8 rfl rfl rfl ?_
    refine Go.iconst D (pc' := 10) d29_9 rfl (v := (1 : Int32)) rfl ?_
    refine Go.callS D (argsL := [(.int (1 : Int32)), (.ref b), (.int (1 : Int32))]) (rest := []) (pc' := 13) (ce' := 2) (sl' := 16) (con_eu8W l Z a0 hw h0 n0 σ Z0 b kb cs B h4 h16 hid AD HI LO) (hw _ (List.mem_of_getElem? (i := 137) rfl)) (hw _ (List.mem_of_getElem? (i := 138) rfl)) (hw _ (List.mem_of_getElem? (i := 13) rfl)) (hw _ (List.mem_of_getElem? (i := 139) rfl)) (by decide) d29_10 rfl pd30 rfl rfl rfl (by decide) (W := 0) rfl (by decide) (by decide) (by decide) (by decide) (by decide) ?_
    intro v10 h2 σ10 q10
    obtain ⟨rfl, d, kd, n, vs, rfl, gd, E2, D2, b1, b2⟩ := q10
    show Go κ σ h2 2 16 13 #[.val (.ref u8), .val (.int (1 : Int32)), .val (.ref b)] [(.ref d)]
    refine Go.aret D rfl rfl rfl d29_13 (by decide) (by decide) ?_
    exact ⟨rfl, d, kd, n, vs, rfl, gd, E2, D2, b1, b2⟩
set_option maxRecDepth 65536 in
set_option maxHeartbeats 40000000 in
theorem con_gbW (l : Launch) (Z : State) (a0 : Array Value) (hw : ∀ d ∈ tables_1, d.before a0 Z = true) (h0 : Heap) (n0 : Nat) (σ : Sg) (Z0 : n0 ≤ h0.size) (s : Addr) (cs : List Int32) (S : Wd Z h0 s cs) (h2 : cs.length ≤ 2) (hid : ∀ c ∈ cs, IdW c) (cz : Int32) (hcz : ¬ cz = 0) (O2 : Sta Z Z.heap "java/lang/String" "COMPACT_STRINGS" "Z" (.int cz)) (u8 : Addr) (U1 : Sta Z Z.heap "java/nio/charset/StandardCharsets" "UTF_8" "Ljava/nio/charset/Charset;" (.ref u8)) (U2 : Sta Z Z.heap "sun/nio/cs/UTF_8" "INSTANCE" "Lsun/nio/cs/UTF_8;" (.ref u8)) (AD : Sta Z Z.heap "java/lang/StringUTF16" "$assertionsDisabled" "Z" (.int 1)) (HI : Sta Z Z.heap "java/lang/StringUTF16" "HI_BYTE_SHIFT" "I" (.int 0)) (LO : Sta Z Z.heap "java/lang/StringUTF16" "LO_BYTE_SHIFT" "I" (.int 8)) :
    Con l Z y28 jdk_42_method_64_code 2 ((some (.array .byte))) ({ frames := 5, cells := 2, slots := 16, locals := 136 } : Room) [] #[(.ref s), (.ref u8)] σ h0 n0 (fun v h τ => σ = τ ∧ ∃ d kd n vs, v = some (.ref d) ∧ h0.size ≤ d ∧ Ext h0 h ∧ Arv Z h d kd .byte (Int32.ofNat n) vs (.int 0) ∧ cs.length ≤ n ∧ n ≤ 3 * cs.length) := by
  refine Con.of_go pn28 (ls := #[.val (.ref s), .val (.ref u8)]) (fun m => by first | (simp [entryFrame, mkF, argsToLocals, Value.category]; done) | rfl) ?_
  intro κ D
  obtain ⟨⟨e1, e2, b, kb, e3, e4⟩, h16, h4, hbig⟩ := id S
  refine Go.aloadN D (pc' := 1) d28_0 rfl rfl rfl ?_
  refine Go.ifnonnullY D (pc' := 12) d28_1 (by decide) (by decide) ?_
  refine Go.aloadN D (pc' := 13) d28_12 rfl rfl rfl ?_
  refine Go.aloadN D (pc' := 14) d28_13 rfl rfl rfl ?_
  refine Go.callV D (argsL := []) (rest := [(.ref u8)]) (pc' := 17) (ce' := 0) (sl' := 0) (con_scoderW l Z a0 hw h0 n0 σ s e2 cz hcz O2) (hw _ (List.mem_of_getElem? (i := 73) rfl)) (hw _ (List.mem_of_getElem? (i := 74) rfl)) (hw _ (List.mem_of_getElem? (i := 76) rfl)) (hw _ (List.mem_of_getElem? (i := 75) rfl)) (hw _ (List.mem_of_getElem? (i := 13) rfl)) (hw _ (List.mem_of_getElem? (i := 77) rfl)) (nfS (hw _ (List.mem_of_getElem? (i := 76) rfl))) (by decide) e1 d28_14 rfl pd16 rfl rfl rfl (by decide) (W := 1) rfl (by decide) (by decide) (by decide) (by decide) (by decide) ?_
  intro v14 h14 σ14 q14
  obtain ⟨rfl, rfl, rfl⟩ := q14
  show Go κ σ h0 0 0 17 #[.val (.ref s), .val (.ref u8)] [(.int (1 : Int32)), (.ref u8)]
  refine Go.aloadN D (pc' := 18) d28_17 rfl rfl rfl ?_
  refine Go.getF D (pc' := 21) (hw _ (List.mem_of_getElem? (i := 39) rfl)) d28_18 rfl e3 ?_
  refine Go.callS D (argsL := [(.ref u8), (.int (1 : Int32)), (.ref b)]) (rest := []) (pc' := 24) (ce' := 2) (sl' := 16) (con_encW l Z a0 hw h0 n0 σ Z0 b kb cs e4 h2 h16 hid AD HI LO u8 U1 U2) (hw _ (List.mem_of_getElem? (i := 132) rfl)) (hw _ (List.mem_of_getElem? (i := 133) rfl)) (hw _ (List.mem_of_getElem? (i := 13) rfl)) (hw _ (List.mem_of_getElem? (i := 134) rfl)) (by decide) d28_21 rfl pd29 rfl rfl rfl (by decide) (W := 0) rfl (by decide) (by decide) (by decide) (by decide) (by decide) ?_
  intro v21 h2' σ21 q21
  obtain ⟨rfl, d, kd, n, vs, rfl, gd, E2, D2, b1, b2⟩ := q21
  show Go κ σ h2' 2 16 24 #[.val (.ref s), .val (.ref u8)] [(.ref d)]
  refine Go.aret D rfl rfl rfl d28_24 (by decide) (by decide) ?_
  exact ⟨rfl, d, kd, n, vs, rfl, gd, E2, D2, b1, b2⟩
abbrev y23 : MethodName := ⟨"com/example/ticks_into_totals/ticksintototals/CounterName", "isTokenChar", "(C)Z"⟩
theorem d23_0 : decode prog_3_method_6_code 0 = .ok (.iload_n 0, 1) := by decide +kernel
theorem d23_1 : decode prog_3_method_6_code 1 = .ok (.bipush 65, 2) := by decide +kernel
theorem d23_3 : decode prog_3_method_6_code 3 = .ok (.if_icmp .lt 9, 3) := by decide +kernel
theorem d23_6 : decode prog_3_method_6_code 6 = .ok (.iload_n 0, 1) := by decide +kernel
theorem d23_7 : decode prog_3_method_6_code 7 = .ok (.bipush 90, 2) := by decide +kernel
theorem d23_9 : decode prog_3_method_6_code 9 = .ok (.if_icmp .le 45, 3) := by decide +kernel
theorem d23_12 : decode prog_3_method_6_code 12 = .ok (.iload_n 0, 1) := by decide +kernel
theorem d23_13 : decode prog_3_method_6_code 13 = .ok (.bipush 97, 2) := by decide +kernel
theorem d23_15 : decode prog_3_method_6_code 15 = .ok (.if_icmp .lt 9, 3) := by decide +kernel
theorem d23_18 : decode prog_3_method_6_code 18 = .ok (.iload_n 0, 1) := by decide +kernel
theorem d23_19 : decode prog_3_method_6_code 19 = .ok (.bipush 122, 2) := by decide +kernel
theorem d23_21 : decode prog_3_method_6_code 21 = .ok (.if_icmp .le 33, 3) := by decide +kernel
theorem d23_24 : decode prog_3_method_6_code 24 = .ok (.iload_n 0, 1) := by decide +kernel
theorem d23_25 : decode prog_3_method_6_code 25 = .ok (.bipush 48, 2) := by decide +kernel
theorem d23_27 : decode prog_3_method_6_code 27 = .ok (.if_icmp .lt 9, 3) := by decide +kernel
theorem d23_30 : decode prog_3_method_6_code 30 = .ok (.iload_n 0, 1) := by decide +kernel
theorem d23_31 : decode prog_3_method_6_code 31 = .ok (.bipush 57, 2) := by decide +kernel
theorem d23_33 : decode prog_3_method_6_code 33 = .ok (.if_icmp .le 21, 3) := by decide +kernel
theorem d23_36 : decode prog_3_method_6_code 36 = .ok (.iload_n 0, 1) := by decide +kernel
theorem d23_37 : decode prog_3_method_6_code 37 = .ok (.bipush 95, 2) := by decide +kernel
theorem d23_39 : decode prog_3_method_6_code 39 = .ok (.if_icmp .eq 15, 3) := by decide +kernel
theorem d23_42 : decode prog_3_method_6_code 42 = .ok (.iload_n 0, 1) := by decide +kernel
theorem d23_43 : decode prog_3_method_6_code 43 = .ok (.bipush 46, 2) := by decide +kernel
theorem d23_45 : decode prog_3_method_6_code 45 = .ok (.if_icmp .eq 9, 3) := by decide +kernel
theorem d23_48 : decode prog_3_method_6_code 48 = .ok (.iload_n 0, 1) := by decide +kernel
theorem d23_49 : decode prog_3_method_6_code 49 = .ok (.bipush 45, 2) := by decide +kernel
theorem d23_51 : decode prog_3_method_6_code 51 = .ok (.if_icmp .ne 7, 3) := by decide +kernel
theorem d23_54 : decode prog_3_method_6_code 54 = .ok (.iconst 1, 1) := by decide +kernel
theorem d23_55 : decode prog_3_method_6_code 55 = .ok (.goto 4, 3) := by decide +kernel
theorem d23_58 : decode prog_3_method_6_code 58 = .ok (.iconst 0, 1) := by decide +kernel
theorem d23_59 : decode prog_3_method_6_code 59 = .ok (.ireturn, 1) := by decide +kernel
theorem pd23 : parseMethodDescriptor "(C)Z" = some ⟨[.char], (some .boolean)⟩ := by decide +kernel
theorem pn23 : plainFor y23 = true := by first | exact plainFor_of_name (by first | (simp [plainName, overriddenIn]; done) | decide +kernel) | decide +kernel | rfl
set_option maxRecDepth 65536 in
set_option maxHeartbeats 40000000 in
theorem con_itc (l : Launch) (Z : State) (a0 : Array Value) (hw : ∀ d ∈ tables_1, d.before a0 Z = true) (h0 : Heap) (n0 : Nat) (σ : Sg) (c : Int32) (hc : TokC c) :
    Con l Z y23 prog_3_method_6_code 1 ((some .boolean)) ({ frames := 0, cells := 0, slots := 0, locals := 0 } : Room) [] #[(.int c)] σ h0 n0 (fun v h τ => h0 = h ∧ σ = τ ∧ v = some (.int 1)) := by
  refine Con.of_go pn23 (ls := #[.val (.int c)]) (fun m => by first | (simp [entryFrame, mkF, argsToLocals, Value.category]; done) | rfl) ?_
  intro κ D
  refine Go.iloadN D (pc' := 1) d23_0 rfl rfl ?_
  refine Go.bipush D (pc' := 3) d23_1 rfl (v := (65 : Int32)) rfl ?_
  refine Go.icmp D (pc' := 12) (pc2 := 6) d23_3 (by decide) (by decide) rfl ?_ ?_
  · intro (hc3 : c < (65 : Int32))
    refine Go.iloadN D (pc' := 13) d23_12 rfl rfl ?_
    refine Go.bipush D (pc' := 15) d23_13 rfl (v := (97 : Int32)) rfl ?_
    refine Go.icmp D (pc' := 24) (pc2 := 18) d23_15 (by decide) (by decide) rfl ?_ ?_
    · intro (hc15 : c < (97 : Int32))
      refine Go.iloadN D (pc' := 25) d23_24 rfl rfl ?_
      refine Go.bipush D (pc' := 27) d23_25 rfl (v := (48 : Int32)) rfl ?_
      refine Go.icmp D (pc' := 36) (pc2 := 30) d23_27 (by decide) (by decide) rfl ?_ ?_
      · intro (hc27 : c < (48 : Int32))
        refine Go.iloadN D (pc' := 37) d23_36 rfl rfl ?_
        refine Go.bipush D (pc' := 39) d23_37 rfl (v := (95 : Int32)) rfl ?_
        refine Go.icmp D (pc' := 54) (pc2 := 42) d23_39 (by decide) (by decide) rfl ?_ ?_
        · intro (hc39 : c = (95 : Int32))
          refine Go.iconst D (pc' := 55) d23_54 rfl (v := (1 : Int32)) rfl ?_
          refine Go.goto D (pc' := 59) d23_55 (by decide) (by decide) ?_
          refine Go.zret D rfl rfl d23_59 (by decide) (by decide) ?_
          exact ⟨rfl, rfl, rfl⟩
        · intro (hc39 : ¬ c = (95 : Int32))
          refine Go.iloadN D (pc' := 43) d23_42 rfl rfl ?_
          refine Go.bipush D (pc' := 45) d23_43 rfl (v := (46 : Int32)) rfl ?_
          refine Go.icmp D (pc' := 54) (pc2 := 48) d23_45 (by decide) (by decide) rfl ?_ ?_
          · intro (hc45 : c = (46 : Int32))
            refine Go.iconst D (pc' := 55) d23_54 rfl (v := (1 : Int32)) rfl ?_
            refine Go.goto D (pc' := 59) d23_55 (by decide) (by decide) ?_
            refine Go.zret D rfl rfl d23_59 (by decide) (by decide) ?_
            exact ⟨rfl, rfl, rfl⟩
          · intro (hc45 : ¬ c = (46 : Int32))
            refine Go.iloadN D (pc' := 49) d23_48 rfl rfl ?_
            refine Go.bipush D (pc' := 51) d23_49 rfl (v := (45 : Int32)) rfl ?_
            refine Go.icmp D (pc' := 58) (pc2 := 54) d23_51 (by decide) (by decide) rfl ?_ ?_
            · intro (hc51 : ¬ c = (45 : Int32))
              refine Go.iconst D (pc' := 59) d23_58 rfl (v := (0 : Int32)) rfl ?_
              refine Go.zret D rfl rfl d23_59 (by decide) (by decide) ?_
              exfalso
              unfold TokC at hc
              simp only [Int32.lt_iff_toInt_lt, ← Int32.toInt_inj, show (0 : Int32).toInt = 0 from rfl, show (26 : Int32).toInt = 26 from rfl, show (45 : Int32).toInt = 45 from rfl, show (46 : Int32).toInt = 46 from rfl, show (48 : Int32).toInt = 48 from rfl, show (52 : Int32).toInt = 52 from rfl, show (57 : Int32).toInt = 57 from rfl, show (62 : Int32).toInt = 62 from rfl, show (63 : Int32).toInt = 63 from rfl, show (65 : Int32).toInt = 65 from rfl, show (90 : Int32).toInt = 90 from rfl, show (95 : Int32).toInt = 95 from rfl, show (97 : Int32).toInt = 97 from rfl, show (122 : Int32).toInt = 122 from rfl, show (256 : Int32).toInt = 256 from rfl] at hc hc3 hc15 hc27 hc39 hc45 hc51
              omega
            · intro (hc51 : c = (45 : Int32))
              refine Go.iconst D (pc' := 55) d23_54 rfl (v := (1 : Int32)) rfl ?_
              refine Go.goto D (pc' := 59) d23_55 (by decide) (by decide) ?_
              refine Go.zret D rfl rfl d23_59 (by decide) (by decide) ?_
              exact ⟨rfl, rfl, rfl⟩
      · intro (hc27 : ¬ c < (48 : Int32))
        refine Go.iloadN D (pc' := 31) d23_30 rfl rfl ?_
        refine Go.bipush D (pc' := 33) d23_31 rfl (v := (57 : Int32)) rfl ?_
        refine Go.icmp D (pc' := 54) (pc2 := 36) d23_33 (by decide) (by decide) rfl ?_ ?_
        · intro (hc33 : ¬ (57 : Int32) < c)
          refine Go.iconst D (pc' := 55) d23_54 rfl (v := (1 : Int32)) rfl ?_
          refine Go.goto D (pc' := 59) d23_55 (by decide) (by decide) ?_
          refine Go.zret D rfl rfl d23_59 (by decide) (by decide) ?_
          exact ⟨rfl, rfl, rfl⟩
        · intro (hc33 : (57 : Int32) < c)
          refine Go.iloadN D (pc' := 37) d23_36 rfl rfl ?_
          refine Go.bipush D (pc' := 39) d23_37 rfl (v := (95 : Int32)) rfl ?_
          refine Go.icmp D (pc' := 54) (pc2 := 42) d23_39 (by decide) (by decide) rfl ?_ ?_
          · intro (hc39 : c = (95 : Int32))
            refine Go.iconst D (pc' := 55) d23_54 rfl (v := (1 : Int32)) rfl ?_
            refine Go.goto D (pc' := 59) d23_55 (by decide) (by decide) ?_
            refine Go.zret D rfl rfl d23_59 (by decide) (by decide) ?_
            exact ⟨rfl, rfl, rfl⟩
          · intro (hc39 : ¬ c = (95 : Int32))
            refine Go.iloadN D (pc' := 43) d23_42 rfl rfl ?_
            refine Go.bipush D (pc' := 45) d23_43 rfl (v := (46 : Int32)) rfl ?_
            refine Go.icmp D (pc' := 54) (pc2 := 48) d23_45 (by decide) (by decide) rfl ?_ ?_
            · intro (hc45 : c = (46 : Int32))
              refine Go.iconst D (pc' := 55) d23_54 rfl (v := (1 : Int32)) rfl ?_
              refine Go.goto D (pc' := 59) d23_55 (by decide) (by decide) ?_
              refine Go.zret D rfl rfl d23_59 (by decide) (by decide) ?_
              exact ⟨rfl, rfl, rfl⟩
            · intro (hc45 : ¬ c = (46 : Int32))
              refine Go.iloadN D (pc' := 49) d23_48 rfl rfl ?_
              refine Go.bipush D (pc' := 51) d23_49 rfl (v := (45 : Int32)) rfl ?_
              refine Go.icmp D (pc' := 58) (pc2 := 54) d23_51 (by decide) (by decide) rfl ?_ ?_
              · intro (hc51 : ¬ c = (45 : Int32))
                refine Go.iconst D (pc' := 59) d23_58 rfl (v := (0 : Int32)) rfl ?_
                refine Go.zret D rfl rfl d23_59 (by decide) (by decide) ?_
                exfalso
                unfold TokC at hc
                simp only [Int32.lt_iff_toInt_lt, ← Int32.toInt_inj, show (0 : Int32).toInt = 0 from rfl, show (26 : Int32).toInt = 26 from rfl, show (45 : Int32).toInt = 45 from rfl, show (46 : Int32).toInt = 46 from rfl, show (48 : Int32).toInt = 48 from rfl, show (52 : Int32).toInt = 52 from rfl, show (57 : Int32).toInt = 57 from rfl, show (62 : Int32).toInt = 62 from rfl, show (63 : Int32).toInt = 63 from rfl, show (65 : Int32).toInt = 65 from rfl, show (90 : Int32).toInt = 90 from rfl, show (95 : Int32).toInt = 95 from rfl, show (97 : Int32).toInt = 97 from rfl, show (122 : Int32).toInt = 122 from rfl, show (256 : Int32).toInt = 256 from rfl] at hc hc3 hc15 hc27 hc33 hc39 hc45 hc51
                omega
              · intro (hc51 : c = (45 : Int32))
                refine Go.iconst D (pc' := 55) d23_54 rfl (v := (1 : Int32)) rfl ?_
                refine Go.goto D (pc' := 59) d23_55 (by decide) (by decide) ?_
                refine Go.zret D rfl rfl d23_59 (by decide) (by decide) ?_
                exact ⟨rfl, rfl, rfl⟩
    · intro (hc15 : ¬ c < (97 : Int32))
      refine Go.iloadN D (pc' := 19) d23_18 rfl rfl ?_
      refine Go.bipush D (pc' := 21) d23_19 rfl (v := (122 : Int32)) rfl ?_
      refine Go.icmp D (pc' := 54) (pc2 := 24) d23_21 (by decide) (by decide) rfl ?_ ?_
      · intro (hc21 : ¬ (122 : Int32) < c)
        refine Go.iconst D (pc' := 55) d23_54 rfl (v := (1 : Int32)) rfl ?_
        refine Go.goto D (pc' := 59) d23_55 (by decide) (by decide) ?_
        refine Go.zret D rfl rfl d23_59 (by decide) (by decide) ?_
        exact ⟨rfl, rfl, rfl⟩
      · intro (hc21 : (122 : Int32) < c)
        refine Go.iloadN D (pc' := 25) d23_24 rfl rfl ?_
        refine Go.bipush D (pc' := 27) d23_25 rfl (v := (48 : Int32)) rfl ?_
        refine Go.icmp D (pc' := 36) (pc2 := 30) d23_27 (by decide) (by decide) rfl ?_ ?_
        · intro (hc27 : c < (48 : Int32))
          refine Go.iloadN D (pc' := 37) d23_36 rfl rfl ?_
          refine Go.bipush D (pc' := 39) d23_37 rfl (v := (95 : Int32)) rfl ?_
          refine Go.icmp D (pc' := 54) (pc2 := 42) d23_39 (by decide) (by decide) rfl ?_ ?_
          · intro (hc39 : c = (95 : Int32))
            refine Go.iconst D (pc' := 55) d23_54 rfl (v := (1 : Int32)) rfl ?_
            refine Go.goto D (pc' := 59) d23_55 (by decide) (by decide) ?_
            refine Go.zret D rfl rfl d23_59 (by decide) (by decide) ?_
            exact ⟨rfl, rfl, rfl⟩
          · intro (hc39 : ¬ c = (95 : Int32))
            refine Go.iloadN D (pc' := 43) d23_42 rfl rfl ?_
            refine Go.bipush D (pc' := 45) d23_43 rfl (v := (46 : Int32)) rfl ?_
            refine Go.icmp D (pc' := 54) (pc2 := 48) d23_45 (by decide) (by decide) rfl ?_ ?_
            · intro (hc45 : c = (46 : Int32))
              refine Go.iconst D (pc' := 55) d23_54 rfl (v := (1 : Int32)) rfl ?_
              refine Go.goto D (pc' := 59) d23_55 (by decide) (by decide) ?_
              refine Go.zret D rfl rfl d23_59 (by decide) (by decide) ?_
              exact ⟨rfl, rfl, rfl⟩
            · intro (hc45 : ¬ c = (46 : Int32))
              refine Go.iloadN D (pc' := 49) d23_48 rfl rfl ?_
              refine Go.bipush D (pc' := 51) d23_49 rfl (v := (45 : Int32)) rfl ?_
              refine Go.icmp D (pc' := 58) (pc2 := 54) d23_51 (by decide) (by decide) rfl ?_ ?_
              · intro (hc51 : ¬ c = (45 : Int32))
                refine Go.iconst D (pc' := 59) d23_58 rfl (v := (0 : Int32)) rfl ?_
                refine Go.zret D rfl rfl d23_59 (by decide) (by decide) ?_
                exfalso
                unfold TokC at hc
                simp only [Int32.lt_iff_toInt_lt, ← Int32.toInt_inj, show (0 : Int32).toInt = 0 from rfl, show (26 : Int32).toInt = 26 from rfl, show (45 : Int32).toInt = 45 from rfl, show (46 : Int32).toInt = 46 from rfl, show (48 : Int32).toInt = 48 from rfl, show (52 : Int32).toInt = 52 from rfl, show (57 : Int32).toInt = 57 from rfl, show (62 : Int32).toInt = 62 from rfl, show (63 : Int32).toInt = 63 from rfl, show (65 : Int32).toInt = 65 from rfl, show (90 : Int32).toInt = 90 from rfl, show (95 : Int32).toInt = 95 from rfl, show (97 : Int32).toInt = 97 from rfl, show (122 : Int32).toInt = 122 from rfl, show (256 : Int32).toInt = 256 from rfl] at hc hc3 hc15 hc21 hc27 hc39 hc45 hc51
                omega
              · intro (hc51 : c = (45 : Int32))
                refine Go.iconst D (pc' := 55) d23_54 rfl (v := (1 : Int32)) rfl ?_
                refine Go.goto D (pc' := 59) d23_55 (by decide) (by decide) ?_
                refine Go.zret D rfl rfl d23_59 (by decide) (by decide) ?_
                exact ⟨rfl, rfl, rfl⟩
        · intro (hc27 : ¬ c < (48 : Int32))
          refine Go.iloadN D (pc' := 31) d23_30 rfl rfl ?_
          refine Go.bipush D (pc' := 33) d23_31 rfl (v := (57 : Int32)) rfl ?_
          refine Go.icmp D (pc' := 54) (pc2 := 36) d23_33 (by decide) (by decide) rfl ?_ ?_
          · intro (hc33 : ¬ (57 : Int32) < c)
            refine Go.iconst D (pc' := 55) d23_54 rfl (v := (1 : Int32)) rfl ?_
            refine Go.goto D (pc' := 59) d23_55 (by decide) (by decide) ?_
            refine Go.zret D rfl rfl d23_59 (by decide) (by decide) ?_
            exact ⟨rfl, rfl, rfl⟩
          · intro (hc33 : (57 : Int32) < c)
            refine Go.iloadN D (pc' := 37) d23_36 rfl rfl ?_
            refine Go.bipush D (pc' := 39) d23_37 rfl (v := (95 : Int32)) rfl ?_
            refine Go.icmp D (pc' := 54) (pc2 := 42) d23_39 (by decide) (by decide) rfl ?_ ?_
            · intro (hc39 : c = (95 : Int32))
              refine Go.iconst D (pc' := 55) d23_54 rfl (v := (1 : Int32)) rfl ?_
              refine Go.goto D (pc' := 59) d23_55 (by decide) (by decide) ?_
              refine Go.zret D rfl rfl d23_59 (by decide) (by decide) ?_
              exact ⟨rfl, rfl, rfl⟩
            · intro (hc39 : ¬ c = (95 : Int32))
              refine Go.iloadN D (pc' := 43) d23_42 rfl rfl ?_
              refine Go.bipush D (pc' := 45) d23_43 rfl (v := (46 : Int32)) rfl ?_
              refine Go.icmp D (pc' := 54) (pc2 := 48) d23_45 (by decide) (by decide) rfl ?_ ?_
              · intro (hc45 : c = (46 : Int32))
                refine Go.iconst D (pc' := 55) d23_54 rfl (v := (1 : Int32)) rfl ?_
                refine Go.goto D (pc' := 59) d23_55 (by decide) (by decide) ?_
                refine Go.zret D rfl rfl d23_59 (by decide) (by decide) ?_
                exact ⟨rfl, rfl, rfl⟩
              · intro (hc45 : ¬ c = (46 : Int32))
                refine Go.iloadN D (pc' := 49) d23_48 rfl rfl ?_
                refine Go.bipush D (pc' := 51) d23_49 rfl (v := (45 : Int32)) rfl ?_
                refine Go.icmp D (pc' := 58) (pc2 := 54) d23_51 (by decide) (by decide) rfl ?_ ?_
                · intro (hc51 : ¬ c = (45 : Int32))
                  refine Go.iconst D (pc' := 59) d23_58 rfl (v := (0 : Int32)) rfl ?_
                  refine Go.zret D rfl rfl d23_59 (by decide) (by decide) ?_
                  exfalso
                  unfold TokC at hc
                  simp only [Int32.lt_iff_toInt_lt, ← Int32.toInt_inj, show (0 : Int32).toInt = 0 from rfl, show (26 : Int32).toInt = 26 from rfl, show (45 : Int32).toInt = 45 from rfl, show (46 : Int32).toInt = 46 from rfl, show (48 : Int32).toInt = 48 from rfl, show (52 : Int32).toInt = 52 from rfl, show (57 : Int32).toInt = 57 from rfl, show (62 : Int32).toInt = 62 from rfl, show (63 : Int32).toInt = 63 from rfl, show (65 : Int32).toInt = 65 from rfl, show (90 : Int32).toInt = 90 from rfl, show (95 : Int32).toInt = 95 from rfl, show (97 : Int32).toInt = 97 from rfl, show (122 : Int32).toInt = 122 from rfl, show (256 : Int32).toInt = 256 from rfl] at hc hc3 hc15 hc21 hc27 hc33 hc39 hc45 hc51
                  omega
                · intro (hc51 : c = (45 : Int32))
                  refine Go.iconst D (pc' := 55) d23_54 rfl (v := (1 : Int32)) rfl ?_
                  refine Go.goto D (pc' := 59) d23_55 (by decide) (by decide) ?_
                  refine Go.zret D rfl rfl d23_59 (by decide) (by decide) ?_
                  exact ⟨rfl, rfl, rfl⟩
  · intro (hc3 : ¬ c < (65 : Int32))
    refine Go.iloadN D (pc' := 7) d23_6 rfl rfl ?_
    refine Go.bipush D (pc' := 9) d23_7 rfl (v := (90 : Int32)) rfl ?_
    refine Go.icmp D (pc' := 54) (pc2 := 12) d23_9 (by decide) (by decide) rfl ?_ ?_
    · intro (hc9 : ¬ (90 : Int32) < c)
      refine Go.iconst D (pc' := 55) d23_54 rfl (v := (1 : Int32)) rfl ?_
      refine Go.goto D (pc' := 59) d23_55 (by decide) (by decide) ?_
      refine Go.zret D rfl rfl d23_59 (by decide) (by decide) ?_
      exact ⟨rfl, rfl, rfl⟩
    · intro (hc9 : (90 : Int32) < c)
      refine Go.iloadN D (pc' := 13) d23_12 rfl rfl ?_
      refine Go.bipush D (pc' := 15) d23_13 rfl (v := (97 : Int32)) rfl ?_
      refine Go.icmp D (pc' := 24) (pc2 := 18) d23_15 (by decide) (by decide) rfl ?_ ?_
      · intro (hc15 : c < (97 : Int32))
        refine Go.iloadN D (pc' := 25) d23_24 rfl rfl ?_
        refine Go.bipush D (pc' := 27) d23_25 rfl (v := (48 : Int32)) rfl ?_
        refine Go.icmp D (pc' := 36) (pc2 := 30) d23_27 (by decide) (by decide) rfl ?_ ?_
        · intro (hc27 : c < (48 : Int32))
          refine Go.iloadN D (pc' := 37) d23_36 rfl rfl ?_
          refine Go.bipush D (pc' := 39) d23_37 rfl (v := (95 : Int32)) rfl ?_
          refine Go.icmp D (pc' := 54) (pc2 := 42) d23_39 (by decide) (by decide) rfl ?_ ?_
          · intro (hc39 : c = (95 : Int32))
            refine Go.iconst D (pc' := 55) d23_54 rfl (v := (1 : Int32)) rfl ?_
            refine Go.goto D (pc' := 59) d23_55 (by decide) (by decide) ?_
            refine Go.zret D rfl rfl d23_59 (by decide) (by decide) ?_
            exact ⟨rfl, rfl, rfl⟩
          · intro (hc39 : ¬ c = (95 : Int32))
            refine Go.iloadN D (pc' := 43) d23_42 rfl rfl ?_
            refine Go.bipush D (pc' := 45) d23_43 rfl (v := (46 : Int32)) rfl ?_
            refine Go.icmp D (pc' := 54) (pc2 := 48) d23_45 (by decide) (by decide) rfl ?_ ?_
            · intro (hc45 : c = (46 : Int32))
              refine Go.iconst D (pc' := 55) d23_54 rfl (v := (1 : Int32)) rfl ?_
              refine Go.goto D (pc' := 59) d23_55 (by decide) (by decide) ?_
              refine Go.zret D rfl rfl d23_59 (by decide) (by decide) ?_
              exact ⟨rfl, rfl, rfl⟩
            · intro (hc45 : ¬ c = (46 : Int32))
              refine Go.iloadN D (pc' := 49) d23_48 rfl rfl ?_
              refine Go.bipush D (pc' := 51) d23_49 rfl (v := (45 : Int32)) rfl ?_
              refine Go.icmp D (pc' := 58) (pc2 := 54) d23_51 (by decide) (by decide) rfl ?_ ?_
              · intro (hc51 : ¬ c = (45 : Int32))
                refine Go.iconst D (pc' := 59) d23_58 rfl (v := (0 : Int32)) rfl ?_
                refine Go.zret D rfl rfl d23_59 (by decide) (by decide) ?_
                exfalso
                unfold TokC at hc
                simp only [Int32.lt_iff_toInt_lt, ← Int32.toInt_inj, show (0 : Int32).toInt = 0 from rfl, show (26 : Int32).toInt = 26 from rfl, show (45 : Int32).toInt = 45 from rfl, show (46 : Int32).toInt = 46 from rfl, show (48 : Int32).toInt = 48 from rfl, show (52 : Int32).toInt = 52 from rfl, show (57 : Int32).toInt = 57 from rfl, show (62 : Int32).toInt = 62 from rfl, show (63 : Int32).toInt = 63 from rfl, show (65 : Int32).toInt = 65 from rfl, show (90 : Int32).toInt = 90 from rfl, show (95 : Int32).toInt = 95 from rfl, show (97 : Int32).toInt = 97 from rfl, show (122 : Int32).toInt = 122 from rfl, show (256 : Int32).toInt = 256 from rfl] at hc hc3 hc9 hc15 hc27 hc39 hc45 hc51
                omega
              · intro (hc51 : c = (45 : Int32))
                refine Go.iconst D (pc' := 55) d23_54 rfl (v := (1 : Int32)) rfl ?_
                refine Go.goto D (pc' := 59) d23_55 (by decide) (by decide) ?_
                refine Go.zret D rfl rfl d23_59 (by decide) (by decide) ?_
                exact ⟨rfl, rfl, rfl⟩
        · intro (hc27 : ¬ c < (48 : Int32))
          refine Go.iloadN D (pc' := 31) d23_30 rfl rfl ?_
          refine Go.bipush D (pc' := 33) d23_31 rfl (v := (57 : Int32)) rfl ?_
          refine Go.icmp D (pc' := 54) (pc2 := 36) d23_33 (by decide) (by decide) rfl ?_ ?_
          · intro (hc33 : ¬ (57 : Int32) < c)
            refine Go.iconst D (pc' := 55) d23_54 rfl (v := (1 : Int32)) rfl ?_
            refine Go.goto D (pc' := 59) d23_55 (by decide) (by decide) ?_
            refine Go.zret D rfl rfl d23_59 (by decide) (by decide) ?_
            exact ⟨rfl, rfl, rfl⟩
          · intro (hc33 : (57 : Int32) < c)
            refine Go.iloadN D (pc' := 37) d23_36 rfl rfl ?_
            refine Go.bipush D (pc' := 39) d23_37 rfl (v := (95 : Int32)) rfl ?_
            refine Go.icmp D (pc' := 54) (pc2 := 42) d23_39 (by decide) (by decide) rfl ?_ ?_
            · intro (hc39 : c = (95 : Int32))
              refine Go.iconst D (pc' := 55) d23_54 rfl (v := (1 : Int32)) rfl ?_
              refine Go.goto D (pc' := 59) d23_55 (by decide) (by decide) ?_
              refine Go.zret D rfl rfl d23_59 (by decide) (by decide) ?_
              exact ⟨rfl, rfl, rfl⟩
            · intro (hc39 : ¬ c = (95 : Int32))
              refine Go.iloadN D (pc' := 43) d23_42 rfl rfl ?_
              refine Go.bipush D (pc' := 45) d23_43 rfl (v := (46 : Int32)) rfl ?_
              refine Go.icmp D (pc' := 54) (pc2 := 48) d23_45 (by decide) (by decide) rfl ?_ ?_
              · intro (hc45 : c = (46 : Int32))
                refine Go.iconst D (pc' := 55) d23_54 rfl (v := (1 : Int32)) rfl ?_
                refine Go.goto D (pc' := 59) d23_55 (by decide) (by decide) ?_
                refine Go.zret D rfl rfl d23_59 (by decide) (by decide) ?_
                exact ⟨rfl, rfl, rfl⟩
              · intro (hc45 : ¬ c = (46 : Int32))
                refine Go.iloadN D (pc' := 49) d23_48 rfl rfl ?_
                refine Go.bipush D (pc' := 51) d23_49 rfl (v := (45 : Int32)) rfl ?_
                refine Go.icmp D (pc' := 58) (pc2 := 54) d23_51 (by decide) (by decide) rfl ?_ ?_
                · intro (hc51 : ¬ c = (45 : Int32))
                  refine Go.iconst D (pc' := 59) d23_58 rfl (v := (0 : Int32)) rfl ?_
                  refine Go.zret D rfl rfl d23_59 (by decide) (by decide) ?_
                  exfalso
                  unfold TokC at hc
                  simp only [Int32.lt_iff_toInt_lt, ← Int32.toInt_inj, show (0 : Int32).toInt = 0 from rfl, show (26 : Int32).toInt = 26 from rfl, show (45 : Int32).toInt = 45 from rfl, show (46 : Int32).toInt = 46 from rfl, show (48 : Int32).toInt = 48 from rfl, show (52 : Int32).toInt = 52 from rfl, show (57 : Int32).toInt = 57 from rfl, show (62 : Int32).toInt = 62 from rfl, show (63 : Int32).toInt = 63 from rfl, show (65 : Int32).toInt = 65 from rfl, show (90 : Int32).toInt = 90 from rfl, show (95 : Int32).toInt = 95 from rfl, show (97 : Int32).toInt = 97 from rfl, show (122 : Int32).toInt = 122 from rfl, show (256 : Int32).toInt = 256 from rfl] at hc hc3 hc9 hc15 hc27 hc33 hc39 hc45 hc51
                  omega
                · intro (hc51 : c = (45 : Int32))
                  refine Go.iconst D (pc' := 55) d23_54 rfl (v := (1 : Int32)) rfl ?_
                  refine Go.goto D (pc' := 59) d23_55 (by decide) (by decide) ?_
                  refine Go.zret D rfl rfl d23_59 (by decide) (by decide) ?_
                  exact ⟨rfl, rfl, rfl⟩
      · intro (hc15 : ¬ c < (97 : Int32))
        refine Go.iloadN D (pc' := 19) d23_18 rfl rfl ?_
        refine Go.bipush D (pc' := 21) d23_19 rfl (v := (122 : Int32)) rfl ?_
        refine Go.icmp D (pc' := 54) (pc2 := 24) d23_21 (by decide) (by decide) rfl ?_ ?_
        · intro (hc21 : ¬ (122 : Int32) < c)
          refine Go.iconst D (pc' := 55) d23_54 rfl (v := (1 : Int32)) rfl ?_
          refine Go.goto D (pc' := 59) d23_55 (by decide) (by decide) ?_
          refine Go.zret D rfl rfl d23_59 (by decide) (by decide) ?_
          exact ⟨rfl, rfl, rfl⟩
        · intro (hc21 : (122 : Int32) < c)
          refine Go.iloadN D (pc' := 25) d23_24 rfl rfl ?_
          refine Go.bipush D (pc' := 27) d23_25 rfl (v := (48 : Int32)) rfl ?_
          refine Go.icmp D (pc' := 36) (pc2 := 30) d23_27 (by decide) (by decide) rfl ?_ ?_
          · intro (hc27 : c < (48 : Int32))
            refine Go.iloadN D (pc' := 37) d23_36 rfl rfl ?_
            refine Go.bipush D (pc' := 39) d23_37 rfl (v := (95 : Int32)) rfl ?_
            refine Go.icmp D (pc' := 54) (pc2 := 42) d23_39 (by decide) (by decide) rfl ?_ ?_
            · intro (hc39 : c = (95 : Int32))
              refine Go.iconst D (pc' := 55) d23_54 rfl (v := (1 : Int32)) rfl ?_
              refine Go.goto D (pc' := 59) d23_55 (by decide) (by decide) ?_
              refine Go.zret D rfl rfl d23_59 (by decide) (by decide) ?_
              exact ⟨rfl, rfl, rfl⟩
            · intro (hc39 : ¬ c = (95 : Int32))
              refine Go.iloadN D (pc' := 43) d23_42 rfl rfl ?_
              refine Go.bipush D (pc' := 45) d23_43 rfl (v := (46 : Int32)) rfl ?_
              refine Go.icmp D (pc' := 54) (pc2 := 48) d23_45 (by decide) (by decide) rfl ?_ ?_
              · intro (hc45 : c = (46 : Int32))
                refine Go.iconst D (pc' := 55) d23_54 rfl (v := (1 : Int32)) rfl ?_
                refine Go.goto D (pc' := 59) d23_55 (by decide) (by decide) ?_
                refine Go.zret D rfl rfl d23_59 (by decide) (by decide) ?_
                exact ⟨rfl, rfl, rfl⟩
              · intro (hc45 : ¬ c = (46 : Int32))
                refine Go.iloadN D (pc' := 49) d23_48 rfl rfl ?_
                refine Go.bipush D (pc' := 51) d23_49 rfl (v := (45 : Int32)) rfl ?_
                refine Go.icmp D (pc' := 58) (pc2 := 54) d23_51 (by decide) (by decide) rfl ?_ ?_
                · intro (hc51 : ¬ c = (45 : Int32))
                  refine Go.iconst D (pc' := 59) d23_58 rfl (v := (0 : Int32)) rfl ?_
                  refine Go.zret D rfl rfl d23_59 (by decide) (by decide) ?_
                  exfalso
                  unfold TokC at hc
                  simp only [Int32.lt_iff_toInt_lt, ← Int32.toInt_inj, show (0 : Int32).toInt = 0 from rfl, show (26 : Int32).toInt = 26 from rfl, show (45 : Int32).toInt = 45 from rfl, show (46 : Int32).toInt = 46 from rfl, show (48 : Int32).toInt = 48 from rfl, show (52 : Int32).toInt = 52 from rfl, show (57 : Int32).toInt = 57 from rfl, show (62 : Int32).toInt = 62 from rfl, show (63 : Int32).toInt = 63 from rfl, show (65 : Int32).toInt = 65 from rfl, show (90 : Int32).toInt = 90 from rfl, show (95 : Int32).toInt = 95 from rfl, show (97 : Int32).toInt = 97 from rfl, show (122 : Int32).toInt = 122 from rfl, show (256 : Int32).toInt = 256 from rfl] at hc hc3 hc9 hc15 hc21 hc27 hc39 hc45 hc51
                  omega
                · intro (hc51 : c = (45 : Int32))
                  refine Go.iconst D (pc' := 55) d23_54 rfl (v := (1 : Int32)) rfl ?_
                  refine Go.goto D (pc' := 59) d23_55 (by decide) (by decide) ?_
                  refine Go.zret D rfl rfl d23_59 (by decide) (by decide) ?_
                  exact ⟨rfl, rfl, rfl⟩
          · intro (hc27 : ¬ c < (48 : Int32))
            refine Go.iloadN D (pc' := 31) d23_30 rfl rfl ?_
            refine Go.bipush D (pc' := 33) d23_31 rfl (v := (57 : Int32)) rfl ?_
            refine Go.icmp D (pc' := 54) (pc2 := 36) d23_33 (by decide) (by decide) rfl ?_ ?_
            · intro (hc33 : ¬ (57 : Int32) < c)
              refine Go.iconst D (pc' := 55) d23_54 rfl (v := (1 : Int32)) rfl ?_
              refine Go.goto D (pc' := 59) d23_55 (by decide) (by decide) ?_
              refine Go.zret D rfl rfl d23_59 (by decide) (by decide) ?_
              exact ⟨rfl, rfl, rfl⟩
            · intro (hc33 : (57 : Int32) < c)
              refine Go.iloadN D (pc' := 37) d23_36 rfl rfl ?_
              refine Go.bipush D (pc' := 39) d23_37 rfl (v := (95 : Int32)) rfl ?_
              refine Go.icmp D (pc' := 54) (pc2 := 42) d23_39 (by decide) (by decide) rfl ?_ ?_
              · intro (hc39 : c = (95 : Int32))
                refine Go.iconst D (pc' := 55) d23_54 rfl (v := (1 : Int32)) rfl ?_
                refine Go.goto D (pc' := 59) d23_55 (by decide) (by decide) ?_
                refine Go.zret D rfl rfl d23_59 (by decide) (by decide) ?_
                exact ⟨rfl, rfl, rfl⟩
              · intro (hc39 : ¬ c = (95 : Int32))
                refine Go.iloadN D (pc' := 43) d23_42 rfl rfl ?_
                refine Go.bipush D (pc' := 45) d23_43 rfl (v := (46 : Int32)) rfl ?_
                refine Go.icmp D (pc' := 54) (pc2 := 48) d23_45 (by decide) (by decide) rfl ?_ ?_
                · intro (hc45 : c = (46 : Int32))
                  refine Go.iconst D (pc' := 55) d23_54 rfl (v := (1 : Int32)) rfl ?_
                  refine Go.goto D (pc' := 59) d23_55 (by decide) (by decide) ?_
                  refine Go.zret D rfl rfl d23_59 (by decide) (by decide) ?_
                  exact ⟨rfl, rfl, rfl⟩
                · intro (hc45 : ¬ c = (46 : Int32))
                  refine Go.iloadN D (pc' := 49) d23_48 rfl rfl ?_
                  refine Go.bipush D (pc' := 51) d23_49 rfl (v := (45 : Int32)) rfl ?_
                  refine Go.icmp D (pc' := 58) (pc2 := 54) d23_51 (by decide) (by decide) rfl ?_ ?_
                  · intro (hc51 : ¬ c = (45 : Int32))
                    refine Go.iconst D (pc' := 59) d23_58 rfl (v := (0 : Int32)) rfl ?_
                    refine Go.zret D rfl rfl d23_59 (by decide) (by decide) ?_
                    exfalso
                    unfold TokC at hc
                    simp only [Int32.lt_iff_toInt_lt, ← Int32.toInt_inj, show (0 : Int32).toInt = 0 from rfl, show (26 : Int32).toInt = 26 from rfl, show (45 : Int32).toInt = 45 from rfl, show (46 : Int32).toInt = 46 from rfl, show (48 : Int32).toInt = 48 from rfl, show (52 : Int32).toInt = 52 from rfl, show (57 : Int32).toInt = 57 from rfl, show (62 : Int32).toInt = 62 from rfl, show (63 : Int32).toInt = 63 from rfl, show (65 : Int32).toInt = 65 from rfl, show (90 : Int32).toInt = 90 from rfl, show (95 : Int32).toInt = 95 from rfl, show (97 : Int32).toInt = 97 from rfl, show (122 : Int32).toInt = 122 from rfl, show (256 : Int32).toInt = 256 from rfl] at hc hc3 hc9 hc15 hc21 hc27 hc33 hc39 hc45 hc51
                    omega
                  · intro (hc51 : c = (45 : Int32))
                    refine Go.iconst D (pc' := 55) d23_54 rfl (v := (1 : Int32)) rfl ?_
                    refine Go.goto D (pc' := 59) d23_55 (by decide) (by decide) ?_
                    refine Go.zret D rfl rfl d23_59 (by decide) (by decide) ?_
                    exact ⟨rfl, rfl, rfl⟩
abbrev y17 : MethodName := ⟨"com/example/ticks_into_totals/ticksintototals/CounterName", "isToken", "(Ljava/lang/String;)Z"⟩
theorem d17_0 : decode prog_3_method_5_code 0 = .ok (.iconst 0, 1) := by decide +kernel
theorem d17_1 : decode prog_3_method_5_code 1 = .ok (.istore_n 1, 1) := by decide +kernel
theorem d17_2 : decode prog_3_method_5_code 2 = .ok (.iload_n 1, 1) := by decide +kernel
theorem d17_3 : decode prog_3_method_5_code 3 = .ok (.aload_n 0, 1) := by decide +kernel
theorem d17_4 : decode prog_3_method_5_code 4 = .ok (.invokevirtual 49, 3) := by decide +kernel
theorem d17_7 : decode prog_3_method_5_code 7 = .ok (.if_icmp .ge 22, 3) := by decide +kernel
theorem d17_10 : decode prog_3_method_5_code 10 = .ok (.aload_n 0, 1) := by decide +kernel
theorem d17_11 : decode prog_3_method_5_code 11 = .ok (.iload_n 1, 1) := by decide +kernel
theorem d17_12 : decode prog_3_method_5_code 12 = .ok (.invokevirtual 75, 3) := by decide +kernel
theorem d17_15 : decode prog_3_method_5_code 15 = .ok (.invokestatic 79, 3) := by decide +kernel
theorem d17_18 : decode prog_3_method_5_code 18 = .ok (.ifCond .ne 5, 3) := by decide +kernel
theorem d17_21 : decode prog_3_method_5_code 21 = .ok (.iconst 0, 1) := by decide +kernel
theorem d17_22 : decode prog_3_method_5_code 22 = .ok (.ireturn, 1) := by decide +kernel
theorem d17_23 : decode prog_3_method_5_code 23 = .ok (.iinc 1 1, 3) := by decide +kernel
theorem d17_26 : decode prog_3_method_5_code 26 = .ok (.goto (-24), 3) := by decide +kernel
theorem d17_29 : decode prog_3_method_5_code 29 = .ok (.iconst 1, 1) := by decide +kernel
theorem d17_30 : decode prog_3_method_5_code 30 = .ok (.ireturn, 1) := by decide +kernel
theorem pd17 : parseMethodDescriptor "(Ljava/lang/String;)Z" = some ⟨[(.object "java/lang/String")], (some .boolean)⟩ := by decide +kernel
theorem pn17 : plainFor y17 = true := by first | exact plainFor_of_name (by first | (simp [plainName, overriddenIn]; done) | decide +kernel) | decide +kernel | rfl
set_option maxRecDepth 65536 in
set_option maxHeartbeats 40000000 in
theorem con_isTok (l : Launch) (Z : State) (a0 : Array Value) (hw : ∀ d ∈ tables_1, d.before a0 Z = true) (h0 : Heap) (n0 : Nat) (σ : Sg) (s : Addr) (cs : List Int32) (S : Str Z h0 s cs) (ht : ∀ c ∈ cs, TokC c) (cz : Int32) (hcz : ¬ cz = 0) (O2 : Sta Z Z.heap "java/lang/String" "COMPACT_STRINGS" "Z" (.int cz)) (fm : Value) (rf : fm.isRef = true) (O4 : Sta Z Z.heap "jdk/internal/util/Preconditions" "SIOOBE_FORMATTER" "Ljava/util/function/BiFunction;" fm) :
    Con l Z y17 prog_3_method_5_code 2 ((some .boolean)) ({ frames := 4, cells := 0, slots := 0, locals := 60 } : Room) [] #[(.ref s)] σ h0 n0 (fun v h τ => h0 = h ∧ σ = τ ∧ v = some (.int 1)) := by
  refine Con.of_go pn17 (ls := #[.val (.ref s), .unset]) (fun m => by first | (simp [entryFrame, mkF, argsToLocals, Value.category]; done) | rfl) ?_
  intro κ D
  have hl := S.2.2
  have loop : ∀ (N i : Nat), cs.length - i = N → i ≤ cs.length → Go κ σ h0 0 0 2 #[.val (.ref s), .val (.int (Int32.ofNat i))] [] := by
    intro N
    induction N using Nat.strongRecOn with
    | _ N ih =>
      intro i hN hi0
      refine Go.iloadN D (pc' := 3) d17_2 rfl rfl ?_
      refine Go.aloadN D (pc' := 4) d17_3 rfl rfl rfl ?_
      refine Go.callV D (argsL := []) (rest := [(.int (Int32.ofNat i))]) (pc' := 7) (ce' := 0) (sl' := 0) (con_slen l Z a0 hw h0 n0 σ s cs S cz hcz O2) (hw _ (List.mem_of_getElem? (i := 68) rfl)) (hw _ (List.mem_of_getElem? (i := 69) rfl)) (hw _ (List.mem_of_getElem? (i := 71) rfl)) (hw _ (List.mem_of_getElem? (i := 70) rfl)) (hw _ (List.mem_of_getElem? (i := 13) rfl)) (hw _ (List.mem_of_getElem? (i := 72) rfl)) (nfS (hw _ (List.mem_of_getElem? (i := 71) rfl))) (by decide) S.1.1 d17_4 rfl pd15 rfl rfl rfl (by decide) (W := 1) rfl (by decide) (by decide) (by decide) (by decide) (by decide) ?_
      intro v4 h4 σ4 q4
      obtain ⟨rfl, rfl, rfl⟩ := q4
      show Go κ σ h0 0 0 7 #[.val (.ref s), .val (.int (Int32.ofNat i))] [(.int (Int32.ofNat cs.length)), (.int (Int32.ofNat i))]
      refine Go.icmp D (pc' := 29) (pc2 := 10) d17_7 (by decide) (by decide) rfl ?_ ?_
      · intro (hc7 : ¬ (Int32.ofNat i) < (Int32.ofNat cs.length))
        refine Go.iconst D (pc' := 30) d17_29 rfl (v := (1 : Int32)) rfl ?_
        refine Go.zret D rfl rfl d17_30 (by decide) (by decide) ?_
        exact ⟨rfl, rfl, rfl⟩
      · intro (hc7 : (Int32.ofNat i) < (Int32.ofNat cs.length))
        have hi : i < cs.length := (own_lt (by omega) (by omega)).mp hc7
        refine Go.aloadN D (pc' := 11) d17_10 rfl rfl rfl ?_
        refine Go.iloadN D (pc' := 12) d17_11 rfl rfl ?_
        refine Go.callV D (argsL := [(.int (Int32.ofNat i))]) (rest := []) (pc' := 15) (ce' := 0) (sl' := 0) (con_chAt l Z a0 hw h0 n0 σ s cs S i hi cz hcz O2 fm rf O4) (hw _ (List.mem_of_getElem? (i := 81) rfl)) (hw _ (List.mem_of_getElem? (i := 82) rfl)) (hw _ (List.mem_of_getElem? (i := 84) rfl)) (hw _ (List.mem_of_getElem? (i := 83) rfl)) (hw _ (List.mem_of_getElem? (i := 13) rfl)) (hw _ (List.mem_of_getElem? (i := 85) rfl)) (nfS (hw _ (List.mem_of_getElem? (i := 84) rfl))) (by decide) S.1.1 d17_12 rfl pd18 rfl rfl rfl (by decide) (W := 0) rfl (by decide) (by decide) (by decide) (by decide) (by decide) ?_
        intro v12 h12 σ12 q12
        obtain ⟨rfl, rfl, rfl⟩ := q12
        show Go κ σ h0 0 0 15 #[.val (.ref s), .val (.int (Int32.ofNat i))] [(.int cs[i])]
        refine Go.callS D (argsL := [(.int cs[i])]) (rest := []) (pc' := 18) (ce' := 0) (sl' := 0) (con_itc l Z a0 hw h0 n0 σ cs[i] (ht _ (List.getElem_mem hi))) (hw _ (List.mem_of_getElem? (i := 103) rfl)) (hw _ (List.mem_of_getElem? (i := 104) rfl)) (hw _ (List.mem_of_getElem? (i := 43) rfl)) (hw _ (List.mem_of_getElem? (i := 105) rfl)) (by decide) d17_15 rfl pd23 rfl rfl rfl (by decide) (W := 0) rfl (by decide) (by decide) (by decide) (by decide) (by decide) ?_
        intro v15 h15 σ15 q15
        obtain ⟨rfl, rfl, rfl⟩ := q15
        show Go κ σ h0 0 0 18 #[.val (.ref s), .val (.int (Int32.ofNat i))] [(.int (1 : Int32))]
        refine Go.ifc D (pc' := 23) (pc2 := 21) d17_18 (by decide) (by decide) rfl (fun _ => ?_) (fun (hc : (1 : Int32) = 0) => absurd hc (by decide))
        refine Go.iinc D (pc' := 26) d17_23 rfl rfl (d := (1 : Int32)) rfl (ls' := #[.val (.ref s), .val (.int ((Int32.ofNat i) + (1 : Int32)))]) rfl ?_
        refine Go.goto D (pc' := 2) d17_26 (by decide) (by decide) ?_
        rw [own_succ]
        exact ih (cs.length - (i + 1)) (by omega) (i + 1) rfl (by omega)
  refine Go.iconst D (pc' := 1) d17_0 rfl (v := (0 : Int32)) rfl ?_
  refine Go.istoreN D (pc' := 2) d17_1 rfl (ls' := #[.val (.ref s), .val (.int (0 : Int32))]) rfl ?_
  exact loop (cs.length - 0) 0 rfl (by omega)
abbrev y12 : MethodName := ⟨"com/example/ticks_into_totals/ticksintototals/CounterName", "checkToken", "(Ljava/lang/String;Ljava/lang/String;)Ljava/lang/String;"⟩
theorem d12_0 : decode prog_3_method_4_code 0 = .ok (.aload_n 1, 1) := by decide +kernel
theorem d12_1 : decode prog_3_method_4_code 1 = .ok (.aload_n 0, 1) := by decide +kernel
theorem d12_2 : decode prog_3_method_4_code 2 = .ok (.invokestatic 39, 3) := by decide +kernel
theorem d12_5 : decode prog_3_method_4_code 5 = .ok (.pop, 1) := by decide +kernel
theorem d12_6 : decode prog_3_method_4_code 6 = .ok (.aload_n 1, 1) := by decide +kernel
theorem d12_7 : decode prog_3_method_4_code 7 = .ok (.invokevirtual 45, 3) := by decide +kernel
theorem d12_10 : decode prog_3_method_4_code 10 = .ok (.ifCond .ne 19, 3) := by decide +kernel
theorem d12_13 : decode prog_3_method_4_code 13 = .ok (.aload_n 1, 1) := by decide +kernel
theorem d12_14 : decode prog_3_method_4_code 14 = .ok (.invokevirtual 49, 3) := by decide +kernel
theorem d12_17 : decode prog_3_method_4_code 17 = .ok (.bipush 64, 2) := by decide +kernel
theorem d12_19 : decode prog_3_method_4_code 19 = .ok (.if_icmp .gt 10, 3) := by decide +kernel
theorem d12_22 : decode prog_3_method_4_code 22 = .ok (.aload_n 1, 1) := by decide +kernel
theorem d12_23 : decode prog_3_method_4_code 23 = .ok (.invokestatic 52, 3) := by decide +kernel
theorem d12_26 : decode prog_3_method_4_code 26 = .ok (.ifCond .ne 32, 3) := by decide +kernel
theorem d12_58 : decode prog_3_method_4_code 58 = .ok (.aload_n 1, 1) := by decide +kernel
theorem d12_59 : decode prog_3_method_4_code 59 = .ok (.areturn, 1) := by decide +kernel
theorem pd12 : parseMethodDescriptor "(Ljava/lang/String;Ljava/lang/String;)Ljava/lang/String;" = some ⟨[(.object "java/lang/String"), (.object "java/lang/String")], (some (.object "java/lang/String"))⟩ := by decide +kernel
theorem pn12 : plainFor y12 = true := by first | exact plainFor_of_name (by first | (simp [plainName, overriddenIn]; done) | decide +kernel) | decide +kernel | rfl
set_option maxRecDepth 65536 in
set_option maxHeartbeats 40000000 in
theorem con_chTok (l : Launch) (Z : State) (a0 : Array Value) (hw : ∀ d ∈ tables_1, d.before a0 Z = true) (h0 : Heap) (n0 : Nat) (σ : Sg) (pt s : Addr) (cs : List Int32) (S : Str Z h0 s cs) (hne : ¬ cs = []) (ht : ∀ c ∈ cs, TokC c) (cz : Int32) (hcz : ¬ cz = 0) (O2 : Sta Z Z.heap "java/lang/String" "COMPACT_STRINGS" "Z" (.int cz)) (fm : Value) (rf : fm.isRef = true) (O4 : Sta Z Z.heap "jdk/internal/util/Preconditions" "SIOOBE_FORMATTER" "Ljava/util/function/BiFunction;" fm) :
    Con l Z y12 prog_3_method_4_code 2 ((some (.object "java/lang/String"))) ({ frames := 5, cells := 0, slots := 0, locals := 80 } : Room) [] #[(.ref pt), (.ref s)] σ h0 n0 (fun v h τ => h0 = h ∧ σ = τ ∧ v = some (.ref s)) := by
  refine Con.of_go pn12 (ls := #[.val (.ref pt), .val (.ref s)]) (fun m => by first | (simp [entryFrame, mkF, argsToLocals, Value.category]; done) | rfl) ?_
  intro κ D
  have hl := S.2.2
  refine Go.aloadN D (pc' := 1) d12_0 rfl rfl rfl ?_
  refine Go.aloadN D (pc' := 2) d12_1 rfl rfl rfl ?_
  refine Go.callS D (argsL := [(.ref s), (.ref pt)]) (rest := []) (pc' := 5) (ce' := 0) (sl' := 0) (con_rnn l Z a0 hw h0 n0 σ s pt) (hw _ (List.mem_of_getElem? (i := 59) rfl)) (hw _ (List.mem_of_getElem? (i := 60) rfl)) (hw _ (List.mem_of_getElem? (i := 61) rfl)) (hw _ (List.mem_of_getElem? (i := 62) rfl)) (by decide) d12_2 rfl pd13 rfl rfl rfl (by decide) (W := 0) rfl (by decide) (by decide) (by decide) (by decide) (by decide) ?_
  intro v2 h2 σ2 q2
  obtain ⟨rfl, rfl, rfl⟩ := q2
  show Go κ σ h0 0 0 5 #[.val (.ref pt), .val (.ref s)] [(.ref s)]
  refine Go.pop D (pc' := 6) d12_5 rfl rfl ?_
  refine Go.aloadN D (pc' := 7) d12_6 rfl rfl rfl ?_
  refine Go.callV D (argsL := []) (rest := []) (pc' := 10) (ce' := 0) (sl' := 0) (con_sempty l Z a0 hw h0 n0 σ s cs S) (hw _ (List.mem_of_getElem? (i := 63) rfl)) (hw _ (List.mem_of_getElem? (i := 64) rfl)) (hw _ (List.mem_of_getElem? (i := 66) rfl)) (hw _ (List.mem_of_getElem? (i := 65) rfl)) (hw _ (List.mem_of_getElem? (i := 13) rfl)) (hw _ (List.mem_of_getElem? (i := 67) rfl)) (nfS (hw _ (List.mem_of_getElem? (i := 66) rfl))) (by decide) S.1.1 d12_7 rfl pd14 rfl rfl rfl (by decide) (W := 0) rfl (by decide) (by decide) (by decide) (by decide) (by decide) ?_
  intro v7 h7 σ7 q7
  obtain ⟨rfl, rfl, r, rfl, hr⟩ := q7
  obtain rfl : r = 0 := hr.elim (fun z => absurd z.2 hne) (fun z => z.1)
  show Go κ σ h0 0 0 10 #[.val (.ref pt), .val (.ref s)] [(.int (0 : Int32))]
  refine Go.ifc D (pc' := 29) (pc2 := 13) d12_10 (by decide) (by decide) rfl (fun (hc : ¬ (0 : Int32) = 0) => absurd hc (by decide)) (fun _ => ?_)
  refine Go.aloadN D (pc' := 14) d12_13 rfl rfl rfl ?_
  refine Go.callV D (argsL := []) (rest := []) (pc' := 17) (ce' := 0) (sl' := 0) (con_slen l Z a0 hw h0 n0 σ s cs S cz hcz O2) (hw _ (List.mem_of_getElem? (i := 68) rfl)) (hw _ (List.mem_of_getElem? (i := 69) rfl)) (hw _ (List.mem_of_getElem? (i := 71) rfl)) (hw _ (List.mem_of_getElem? (i := 70) rfl)) (hw _ (List.mem_of_getElem? (i := 13) rfl)) (hw _ (List.mem_of_getElem? (i := 72) rfl)) (nfS (hw _ (List.mem_of_getElem? (i := 71) rfl))) (by decide) S.1.1 d12_14 rfl pd15 rfl rfl rfl (by decide) (W := 0) rfl (by decide) (by decide) (by decide) (by decide) (by decide) ?_
  intro v14 h14 σ14 q14
  obtain ⟨rfl, rfl, rfl⟩ := q14
  show Go κ σ h0 0 0 17 #[.val (.ref pt), .val (.ref s)] [(.int (Int32.ofNat cs.length))]
  refine Go.bipush D (pc' := 19) d12_17 rfl (v := (64 : Int32)) rfl ?_
  refine Go.icmp D (pc' := 29) (pc2 := 22) d12_19 (by decide) (by decide) rfl ?_ ?_
  · intro (hc19 : (64 : Int32) < (Int32.ofNat cs.length))
    exact absurd ((own_lt (i := 64) (by omega) (by omega)).mp hc19) (by omega)
  · intro (hc19 : ¬ (64 : Int32) < (Int32.ofNat cs.length))
    refine Go.aloadN D (pc' := 23) d12_22 rfl rfl rfl ?_
    refine Go.callS D (argsL := [(.ref s)]) (rest := []) (pc' := 26) (ce' := 0) (sl' := 0) (con_isTok l Z a0 hw h0 n0 σ s cs S ht cz hcz O2 fm rf O4) (hw _ (List.mem_of_getElem? (i := 78) rfl)) (hw _ (List.mem_of_getElem? (i := 79) rfl)) (hw _ (List.mem_of_getElem? (i := 43) rfl)) (hw _ (List.mem_of_getElem? (i := 80) rfl)) (by decide) d12_23 rfl pd17 rfl rfl rfl (by decide) (W := 0) rfl (by decide) (by decide) (by decide) (by decide) (by decide) ?_
    intro v23 h23 σ23 q23
    obtain ⟨rfl, rfl, rfl⟩ := q23
    show Go κ σ h0 0 0 26 #[.val (.ref pt), .val (.ref s)] [(.int (1 : Int32))]
    refine Go.ifc D (pc' := 58) (pc2 := 29) d12_26 (by decide) (by decide) rfl (fun _ => ?_) (fun (hc : (1 : Int32) = 0) => absurd hc (by decide))
    refine Go.aloadN D (pc' := 59) d12_58 rfl rfl rfl ?_
    refine Go.aret D rfl rfl rfl d12_59 (by decide) (by decide) ?_
    exact ⟨rfl, rfl, rfl⟩
abbrev y11 : MethodName := ⟨"java/lang/Record", "<init>", "()V"⟩
theorem d11_0 : decode jdk_30_method_1_code 0 = .ok (.aload_n 0, 1) := by decide +kernel
theorem d11_1 : decode jdk_30_method_1_code 1 = .ok (.invokespecial 1, 3) := by decide +kernel
theorem d11_4 : decode jdk_30_method_1_code 4 = .ok (.return_, 1) := by decide +kernel
theorem pd11 : parseMethodDescriptor "()V" = some ⟨[], none⟩ := by decide +kernel
theorem pn11 : plainFor y11 = true := by first | exact plainFor_of_name (by first | (simp [plainName, overriddenIn]; done) | decide +kernel) | decide +kernel | rfl
set_option maxRecDepth 65536 in
set_option maxHeartbeats 40000000 in
theorem con_rec (l : Launch) (Z : State) (a0 : Array Value) (hw : ∀ d ∈ tables_1, d.before a0 Z = true) (h0 : Heap) (n0 : Nat) (σ : Sg) (t : Addr) :
    Con l Z y11 jdk_30_method_1_code 1 none ({ frames := 1, cells := 0, slots := 0, locals := 12 } : Room) [] #[(.ref t)] σ h0 n0 (fun v h τ => h0 = h ∧ σ = τ ∧ v = none) := by
  refine Con.of_go pn11 (ls := #[.val (.ref t)]) (fun m => by first | (simp [entryFrame, mkF, argsToLocals, Value.category]; done) | rfl) ?_
  intro κ D
  refine Go.aloadN D (pc' := 1) d11_0 rfl rfl rfl ?_
  refine Go.initO D (pc' := 4) (hw _ (List.mem_of_getElem? (i := 52) rfl)) (hw _ (List.mem_of_getElem? (i := 23) rfl)) (hw _ (List.mem_of_getElem? (i := 24) rfl)) d11_1 rfl rfl (by decide) (W := 0) rfl (by decide) ?_
  refine Go.vret D rfl d11_4 (by decide) (by decide) ?_
  exact ⟨rfl, rfl, rfl⟩
def TB (Z : State) (h : Heap) (t : Addr) (v1 v2 v3 : Value) : Prop := Exa Z h t "com/example/ticks_into_totals/ticksintototals/CounterName" ∧ Fld Z h t "com/example/ticks_into_totals/ticksintototals/CounterName" "ns" "Ljava/lang/String;" v1 ∧ Fld Z h t "com/example/ticks_into_totals/ticksintototals/CounterName" "id" "Ljava/lang/String;" v2 ∧ Fld Z h t "com/example/ticks_into_totals/ticksintototals/CounterName" "field" "Ljava/lang/String;" v3
theorem TB.ext {Z : State} {h h' : Heap} {t : Addr} {v1 v2 v3 : Value} (F : TB Z h t v1 v2 v3) (E : Ext h h') : TB Z h' t v1 v2 v3 := ⟨F.1.ext E, F.2.1.ext E, F.2.2.1.ext E, F.2.2.2.ext E⟩
theorem TB.keep {Z : State} {h h' : Heap} {t s : Addr} {v1 v2 v3 : Value} (F : TB Z h t v1 v2 v3) (K : Keep h h' [s]) (q : t ≠ s) : TB Z h' t v1 v2 v3 := ⟨F.1.keep K, F.2.1.keep K (nin1 q), F.2.2.1.keep K (nin1 q), F.2.2.2.keep K (nin1 q)⟩
theorem TB.set1 {Z : State} {a0 : Array Value} (hw : ∀ d ∈ tables_1, d.before a0 Z = true) {h h' : Heap} {t : Addr} {v1 v2 v3 v : Value} (F : TB Z h t v1 v2 v3) (W : Wr h h' t (Jvm.RoadKit.slotOf Z "com/example/ticks_into_totals/ticksintototals/CounterName" "ns" "Ljava/lang/String;") v) : TB Z h' t v v2 v3 := ⟨F.1.wr W, F.2.1.same W, F.2.2.1.other W (Or.inr (slot_ne (Or.inr (hw _ (List.mem_of_getElem? (i := 163) rfl))) (Or.inr (hw _ (List.mem_of_getElem? (i := 161) rfl))) (by decide) (t := .object "java/lang/String") (t' := .object "java/lang/String") (by decide) (by decide))), F.2.2.2.other W (Or.inr (slot_ne (Or.inr (hw _ (List.mem_of_getElem? (i := 165) rfl))) (Or.inr (hw _ (List.mem_of_getElem? (i := 161) rfl))) (by decide) (t := .object "java/lang/String") (t' := .object "java/lang/String") (by decide) (by decide)))⟩
theorem TB.set2 {Z : State} {a0 : Array Value} (hw : ∀ d ∈ tables_1, d.before a0 Z = true) {h h' : Heap} {t : Addr} {v1 v2 v3 v : Value} (F : TB Z h t v1 v2 v3) (W : Wr h h' t (Jvm.RoadKit.slotOf Z "com/example/ticks_into_totals/ticksintototals/CounterName" "id" "Ljava/lang/String;") v) : TB Z h' t v1 v v3 := ⟨F.1.wr W, F.2.1.other W (Or.inr (slot_ne (Or.inr (hw _ (List.mem_of_getElem? (i := 161) rfl))) (Or.inr (hw _ (List.mem_of_getElem? (i := 163) rfl))) (by decide) (t := .object "java/lang/String") (t' := .object "java/lang/String") (by decide) (by decide))), F.2.2.1.same W, F.2.2.2.other W (Or.inr (slot_ne (Or.inr (hw _ (List.mem_of_getElem? (i := 165) rfl))) (Or.inr (hw _ (List.mem_of_getElem? (i := 163) rfl))) (by decide) (t := .object "java/lang/String") (t' := .object "java/lang/String") (by decide) (by decide)))⟩
theorem TB.set3 {Z : State} {a0 : Array Value} (hw : ∀ d ∈ tables_1, d.before a0 Z = true) {h h' : Heap} {t : Addr} {v1 v2 v3 v : Value} (F : TB Z h t v1 v2 v3) (W : Wr h h' t (Jvm.RoadKit.slotOf Z "com/example/ticks_into_totals/ticksintototals/CounterName" "field" "Ljava/lang/String;") v) : TB Z h' t v1 v2 v := ⟨F.1.wr W, F.2.1.other W (Or.inr (slot_ne (Or.inr (hw _ (List.mem_of_getElem? (i := 161) rfl))) (Or.inr (hw _ (List.mem_of_getElem? (i := 165) rfl))) (by decide) (t := .object "java/lang/String") (t' := .object "java/lang/String") (by decide) (by decide))), F.2.2.1.other W (Or.inr (slot_ne (Or.inr (hw _ (List.mem_of_getElem? (i := 163) rfl))) (Or.inr (hw _ (List.mem_of_getElem? (i := 165) rfl))) (by decide) (t := .object "java/lang/String") (t' := .object "java/lang/String") (by decide) (by decide))), F.2.2.2.same W⟩

abbrev y24 : MethodName := ⟨"com/example/ticks_into_totals/ticksintototals/CounterName", "checkId", "(Ljava/lang/String;)Ljava/lang/String;"⟩
theorem d24_0 : decode prog_3_method_7_code 0 = .ok (.aload_n 0, 1) := by decide +kernel
theorem d24_1 : decode prog_3_method_7_code 1 = .ok (.ldc 83, 2) := by decide +kernel
theorem d24_3 : decode prog_3_method_7_code 3 = .ok (.invokestatic 39, 3) := by decide +kernel
theorem d24_6 : decode prog_3_method_7_code 6 = .ok (.pop, 1) := by decide +kernel
theorem d24_7 : decode prog_3_method_7_code 7 = .ok (.aload_n 0, 1) := by decide +kernel
theorem d24_8 : decode prog_3_method_7_code 8 = .ok (.invokestatic 84, 3) := by decide +kernel
theorem d24_11 : decode prog_3_method_7_code 11 = .ok (.ifCond .ne 13, 3) := by decide +kernel
theorem d24_14 : decode prog_3_method_7_code 14 = .ok (.new 56, 3) := by decide +kernel
theorem d24_17 : decode prog_3_method_7_code 17 = .ok (.dup, 1) := by decide +kernel
theorem d24_18 : decode prog_3_method_7_code 18 = .ok (.ldc 87, 2) := by decide +kernel
theorem d24_20 : decode prog_3_method_7_code 20 = .ok (.invokespecial 72, 3) := by decide +kernel
theorem d24_23 : decode prog_3_method_7_code 23 = .ok (.athrow, 1) := by decide +kernel
theorem d24_24 : decode prog_3_method_7_code 24 = .ok (.aload_n 0, 1) := by decide +kernel
theorem d24_25 : decode prog_3_method_7_code 25 = .ok (.getstatic 89, 3) := by decide +kernel
theorem d24_28 : decode prog_3_method_7_code 28 = .ok (.invokevirtual 95, 3) := by decide +kernel
theorem d24_31 : decode prog_3_method_7_code 31 = .ok (.arraylength, 1) := by decide +kernel
theorem d24_32 : decode prog_3_method_7_code 32 = .ok (.istore_n 1, 1) := by decide +kernel
theorem d24_33 : decode prog_3_method_7_code 33 = .ok (.iload_n 1, 1) := by decide +kernel
theorem d24_34 : decode prog_3_method_7_code 34 = .ok (.ifCond .eq 10, 3) := by decide +kernel
theorem d24_37 : decode prog_3_method_7_code 37 = .ok (.iload_n 1, 1) := by decide +kernel
theorem d24_38 : decode prog_3_method_7_code 38 = .ok (.sipush 255, 3) := by decide +kernel
theorem d24_41 : decode prog_3_method_7_code 41 = .ok (.if_icmp .le 13, 3) := by decide +kernel
theorem d24_44 : decode prog_3_method_7_code 44 = .ok (.new 56, 3) := by decide +kernel
theorem d24_47 : decode prog_3_method_7_code 47 = .ok (.dup, 1) := by decide +kernel
theorem d24_48 : decode prog_3_method_7_code 48 = .ok (.ldc 99, 2) := by decide +kernel
theorem d24_50 : decode prog_3_method_7_code 50 = .ok (.invokespecial 72, 3) := by decide +kernel
theorem d24_53 : decode prog_3_method_7_code 53 = .ok (.athrow, 1) := by decide +kernel
theorem d24_54 : decode prog_3_method_7_code 54 = .ok (.aload_n 0, 1) := by decide +kernel
theorem d24_55 : decode prog_3_method_7_code 55 = .ok (.invokestatic 101, 3) := by decide +kernel
theorem d24_58 : decode prog_3_method_7_code 58 = .ok (.ifCond .eq 13, 3) := by decide +kernel
theorem d24_61 : decode prog_3_method_7_code 61 = .ok (.new 56, 3) := by decide +kernel
theorem d24_64 : decode prog_3_method_7_code 64 = .ok (.dup, 1) := by decide +kernel
theorem d24_65 : decode prog_3_method_7_code 65 = .ok (.ldc 104, 2) := by decide +kernel
theorem d24_67 : decode prog_3_method_7_code 67 = .ok (.invokespecial 72, 3) := by decide +kernel
theorem d24_70 : decode prog_3_method_7_code 70 = .ok (.athrow, 1) := by decide +kernel
theorem d24_71 : decode prog_3_method_7_code 71 = .ok (.aload_n 0, 1) := by decide +kernel
theorem d24_72 : decode prog_3_method_7_code 72 = .ok (.areturn, 1) := by decide +kernel
theorem pd24 : parseMethodDescriptor "(Ljava/lang/String;)Ljava/lang/String;" = some ⟨[(.object "java/lang/String")], (some (.object "java/lang/String"))⟩ := by decide +kernel
theorem pn24 : plainFor y24 = true := by first | exact plainFor_of_name (by first | (simp [plainName, overriddenIn]; done) | decide +kernel) | decide +kernel | rfl
set_option maxRecDepth 65536 in
set_option maxHeartbeats 40000000 in
theorem con_chkIdG (l : Launch) (Z : State) (a0 : Array Value) (hw : ∀ d ∈ tables_1, d.before a0 Z = true) (h0 : Heap) (n0 : Nat) (Z0 : n0 ≤ h0.size) (s : Addr) (cs : List Int32) (S : GS Z h0 s cs) (hne : ¬ cs = []) (h2 : cs.length ≤ 2) (hid : ∀ c ∈ cs, IdW c) (cz : Int32) (hcz : ¬ cz = 0) (O2 : Sta Z Z.heap "java/lang/String" "COMPACT_STRINGS" "Z" (.int cz)) (fm : Value) (rf : fm.isRef = true) (O4 : Sta Z Z.heap "jdk/internal/util/Preconditions" "SIOOBE_FORMATTER" "Ljava/util/function/BiFunction;" fm) (u8 : Addr) (U1 : Sta Z Z.heap "java/nio/charset/StandardCharsets" "UTF_8" "Ljava/nio/charset/Charset;" (.ref u8)) (U2 : Sta Z Z.heap "sun/nio/cs/UTF_8" "INSTANCE" "Lsun/nio/cs/UTF_8;" (.ref u8)) (AD : Sta Z Z.heap "java/lang/StringUTF16" "$assertionsDisabled" "Z" (.int 1)) (HI : Sta Z Z.heap "java/lang/StringUTF16" "HI_BYTE_SHIFT" "I" (.int 0)) (LO : Sta Z Z.heap "java/lang/StringUTF16" "LO_BYTE_SHIFT" "I" (.int 8)) :
    Con l Z y24 prog_3_method_7_code 2 ((some (.object "java/lang/String"))) ({ frames := 6, cells := 4, slots := 28, locals := 149 } : Room) [] #[(.ref s)] none h0 n0 (fun v h τ => τ = none ∧ v = some (.ref s) ∧ Ext h0 h) := by
  refine Con.of_go pn24 (ls := #[.val (.ref s), .unset]) (fun m => by first | (simp [entryFrame, mkF, argsToLocals, Value.category]; done) | rfl) ?_
  intro κ D
  rcases S with ⟨S, Hx⟩ | S
  · skip
    have hne0 : 0 < cs.length := List.length_pos_iff.mpr hne
    have hidL : ∀ c ∈ cs, IdC c := fun c hc => (hid c hc).idc (S.2.1 c hc).2
    refine Go.aloadN D (pc' := 1) d24_0 rfl rfl rfl ?_
    refine Go.ldcR D (pc' := 3) (n := 8) (ce' := 2) (sl' := 12) (hw _ (List.mem_of_getElem? (i := 109) rfl)) (wS hw) d24_1 rfl (by decide) (by decide) rfl rfl (by decide) (by decide) ?_
    intro h1 c1 E1
    have S1 := S.ext E1
    have Z1 : n0 ≤ h1.size := Nat.le_trans Z0 E1.1
    refine Go.callS D (argsL := [(.ref s), (.ref c1)]) (rest := []) (pc' := 6) (ce' := 2) (sl' := 12) (con_rnn l Z a0 hw h1 n0 none s c1) (hw _ (List.mem_of_getElem? (i := 59) rfl)) (hw _ (List.mem_of_getElem? (i := 60) rfl)) (hw _ (List.mem_of_getElem? (i := 61) rfl)) (hw _ (List.mem_of_getElem? (i := 62) rfl)) (by decide) d24_3 rfl pd13 rfl rfl rfl (by decide) (W := 0) rfl (by decide) (by decide) (by decide) (by decide) (by decide) ?_
    intro v3 h3 σ3 q3
    obtain ⟨rfl, rfl, rfl⟩ := q3
    show Go κ none h1 2 12 6 #[.val (.ref s), .unset] [(.ref s)]
    refine Go.pop D (pc' := 7) d24_6 rfl rfl ?_
    refine Go.aloadN D (pc' := 8) d24_7 rfl rfl rfl ?_
    refine Go.callS D (argsL := [(.ref s)]) (rest := []) (pc' := 11) (ce' := 2) (sl' := 12) (con_pairs l Z a0 hw h1 n0 none s cs S1 cz hcz O2 fm rf O4) (hw _ (List.mem_of_getElem? (i := 110) rfl)) (hw _ (List.mem_of_getElem? (i := 111) rfl)) (hw _ (List.mem_of_getElem? (i := 43) rfl)) (hw _ (List.mem_of_getElem? (i := 112) rfl)) (by decide) d24_8 rfl pd25 rfl rfl rfl (by decide) (W := 0) rfl (by decide) (by decide) (by decide) (by decide) (by decide) ?_
    intro v8 h8 σ8 q8
    obtain ⟨rfl, rfl, rfl⟩ := q8
    show Go κ none h1 2 12 11 #[.val (.ref s), .unset] [(.int (1 : Int32))]
    refine Go.ifc D (pc' := 24) (pc2 := 14) d24_11 (by decide) (by decide) rfl (fun _ => ?_) (fun (hc : (1 : Int32) = 0) => absurd hc (by decide))
    refine Go.aloadN D (pc' := 25) d24_24 rfl rfl rfl ?_
    refine Go.getS D (pc' := 28) (hw _ (List.mem_of_getElem? (i := 125) rfl)) d24_25 rfl U1 ?_
    refine Go.callV D (argsL := [(.ref u8)]) (rest := []) (pc' := 31) (ce' := 4) (sl' := 28) (con_gb l Z a0 hw h1 n0 Z1 none s cs S1 (by obtain ⟨b', q1, q2⟩ := Hx; exact ⟨b', q1.ext E1, q2.ext E1⟩) (by omega) cz hcz O2 u8 U1 U2) (hw _ (List.mem_of_getElem? (i := 127) rfl)) (hw _ (List.mem_of_getElem? (i := 128) rfl)) (hw _ (List.mem_of_getElem? (i := 130) rfl)) (hw _ (List.mem_of_getElem? (i := 129) rfl)) (hw _ (List.mem_of_getElem? (i := 13) rfl)) (hw _ (List.mem_of_getElem? (i := 131) rfl)) (nfS (hw _ (List.mem_of_getElem? (i := 130) rfl))) (by decide) S1.1.1 d24_28 rfl pd28 rfl rfl rfl (by decide) (W := 0) rfl (by decide) (by decide) (by decide) (by decide) (by decide) ?_
    intro v28 h2' σ28 q28
    obtain ⟨rfl, d, kd, n, vs, rfl, gd, E2, D2, b1, b2⟩ := q28
    show Go κ none h2' 4 28 31 #[.val (.ref s), .unset] [(.ref d)]
    refine Go.alen D (pc' := 32) d24_31 rfl D2 ?_
    refine Go.istoreN D (pc' := 33) d24_32 rfl (ls' := #[.val (.ref s), .val (.int (Int32.ofNat n))]) rfl ?_
    refine Go.iloadN D (pc' := 34) d24_33 rfl rfl ?_
    refine Go.ifc D (pc' := 44) (pc2 := 37) d24_34 (by decide) (by decide) rfl ?_ ?_
    · intro (hc34 : (Int32.ofNat n) = 0)
      exact absurd (own_inj (j := 0) (by omega) (by omega) hc34) (by omega)
    · intro (hc34 : ¬ (Int32.ofNat n) = 0)
      refine Go.iloadN D (pc' := 38) d24_37 rfl rfl ?_
      refine Go.sipush D (pc' := 41) d24_38 rfl (v := (255 : Int32)) rfl ?_
      refine Go.icmp D (pc' := 54) (pc2 := 44) d24_41 (by decide) (by decide) rfl ?_ ?_
      · intro (hc41 : ¬ (255 : Int32) < (Int32.ofNat n))
        refine Go.aloadN D (pc' := 55) d24_54 rfl rfl rfl ?_
        refine Go.callS D (argsL := [(.ref s)]) (rest := []) (pc' := 58) (ce' := 4) (sl' := 28) (con_ctrl l Z a0 hw h2' n0 none s cs (S1.ext E2) hidL cz hcz O2 fm rf O4) (hw _ (List.mem_of_getElem? (i := 156) rfl)) (hw _ (List.mem_of_getElem? (i := 157) rfl)) (hw _ (List.mem_of_getElem? (i := 43) rfl)) (hw _ (List.mem_of_getElem? (i := 158) rfl)) (by decide) d24_55 rfl pd33 rfl rfl rfl (by decide) (W := 0) rfl (by decide) (by decide) (by decide) (by decide) (by decide) ?_
        intro v55 h55 σ55 q55
        obtain ⟨rfl, rfl, rfl⟩ := q55
        show Go κ none h2' 4 28 58 #[.val (.ref s), .val (.int (Int32.ofNat n))] [(.int (0 : Int32))]
        refine Go.ifc D (pc' := 71) (pc2 := 61) d24_58 (by decide) (by decide) rfl (fun _ => ?_) (fun (hc : ¬ (0 : Int32) = 0) => absurd hc (by decide))
        refine Go.aloadN D (pc' := 72) d24_71 rfl rfl rfl ?_
        refine Go.aret D rfl rfl rfl d24_72 (by decide) (by decide) ?_
        exact ⟨rfl, rfl, E1.tr E2⟩
      · intro (hc41 : (255 : Int32) < (Int32.ofNat n))
        exact absurd ((own_lt (i := 255) (by omega) (by omega)).mp hc41) (by omega)
  · skip
    have hne0 : 0 < cs.length := List.length_pos_iff.mpr hne
    refine Go.aloadN D (pc' := 1) d24_0 rfl rfl rfl ?_
    refine Go.ldcR D (pc' := 3) (n := 8) (ce' := 2) (sl' := 12) (hw _ (List.mem_of_getElem? (i := 109) rfl)) (wS hw) d24_1 rfl (by decide) (by decide) rfl rfl (by decide) (by decide) ?_
    intro h1 c1 E1
    have S1 := S.ext E1
    have Z1 : n0 ≤ h1.size := Nat.le_trans Z0 E1.1
    refine Go.callS D (argsL := [(.ref s), (.ref c1)]) (rest := []) (pc' := 6) (ce' := 2) (sl' := 12) (con_rnn l Z a0 hw h1 n0 none s c1) (hw _ (List.mem_of_getElem? (i := 59) rfl)) (hw _ (List.mem_of_getElem? (i := 60) rfl)) (hw _ (List.mem_of_getElem? (i := 61) rfl)) (hw _ (List.mem_of_getElem? (i := 62) rfl)) (by decide) d24_3 rfl pd13 rfl rfl rfl (by decide) (W := 0) rfl (by decide) (by decide) (by decide) (by decide) (by decide) ?_
    intro v3 h3 σ3 q3
    obtain ⟨rfl, rfl, rfl⟩ := q3
    show Go κ none h1 2 12 6 #[.val (.ref s), .unset] [(.ref s)]
    refine Go.pop D (pc' := 7) d24_6 rfl rfl ?_
    refine Go.aloadN D (pc' := 8) d24_7 rfl rfl rfl ?_
    refine Go.callS D (argsL := [(.ref s)]) (rest := []) (pc' := 11) (ce' := 2) (sl' := 12) (con_pairsW l Z a0 hw h1 n0 none s cs S1 hid cz hcz O2 fm rf O4 AD HI LO) (hw _ (List.mem_of_getElem? (i := 110) rfl)) (hw _ (List.mem_of_getElem? (i := 111) rfl)) (hw _ (List.mem_of_getElem? (i := 43) rfl)) (hw _ (List.mem_of_getElem? (i := 112) rfl)) (by decide) d24_8 rfl pd25 rfl rfl rfl (by decide) (W := 0) rfl (by decide) (by decide) (by decide) (by decide) (by decide) ?_
    intro v8 h8 σ8 q8
    obtain ⟨rfl, rfl, rfl⟩ := q8
    show Go κ none h1 2 12 11 #[.val (.ref s), .unset] [(.int (1 : Int32))]
    refine Go.ifc D (pc' := 24) (pc2 := 14) d24_11 (by decide) (by decide) rfl (fun _ => ?_) (fun (hc : (1 : Int32) = 0) => absurd hc (by decide))
    refine Go.aloadN D (pc' := 25) d24_24 rfl rfl rfl ?_
    refine Go.getS D (pc' := 28) (hw _ (List.mem_of_getElem? (i := 125) rfl)) d24_25 rfl U1 ?_
    refine Go.callV D (argsL := [(.ref u8)]) (rest := []) (pc' := 31) (ce' := 4) (sl' := 28) (con_gbW l Z a0 hw h1 n0 none Z1 s cs S1 h2 hid cz hcz O2 u8 U1 U2 AD HI LO) (hw _ (List.mem_of_getElem? (i := 127) rfl)) (hw _ (List.mem_of_getElem? (i := 128) rfl)) (hw _ (List.mem_of_getElem? (i := 130) rfl)) (hw _ (List.mem_of_getElem? (i := 129) rfl)) (hw _ (List.mem_of_getElem? (i := 13) rfl)) (hw _ (List.mem_of_getElem? (i := 131) rfl)) (nfS (hw _ (List.mem_of_getElem? (i := 130) rfl))) (by decide) S1.1.1 d24_28 rfl pd28 rfl rfl rfl (by decide) (W := 0) rfl (by decide) (by decide) (by decide) (by decide) (by decide) ?_
    intro v28 h2' σ28 q28
    obtain ⟨rfl, d, kd, n, vs, rfl, gd, E2, D2, b1, b2⟩ := q28
    show Go κ none h2' 4 28 31 #[.val (.ref s), .unset] [(.ref d)]
    refine Go.alen D (pc' := 32) d24_31 rfl D2 ?_
    refine Go.istoreN D (pc' := 33) d24_32 rfl (ls' := #[.val (.ref s), .val (.int (Int32.ofNat n))]) rfl ?_
    refine Go.iloadN D (pc' := 34) d24_33 rfl rfl ?_
    refine Go.ifc D (pc' := 44) (pc2 := 37) d24_34 (by decide) (by decide) rfl ?_ ?_
    · intro (hc34 : (Int32.ofNat n) = 0)
      exact absurd (own_inj (j := 0) (by omega) (by omega) hc34) (by omega)
    · intro (hc34 : ¬ (Int32.ofNat n) = 0)
      refine Go.iloadN D (pc' := 38) d24_37 rfl rfl ?_
      refine Go.sipush D (pc' := 41) d24_38 rfl (v := (255 : Int32)) rfl ?_
      refine Go.icmp D (pc' := 54) (pc2 := 44) d24_41 (by decide) (by decide) rfl ?_ ?_
      · intro (hc41 : ¬ (255 : Int32) < (Int32.ofNat n))
        refine Go.aloadN D (pc' := 55) d24_54 rfl rfl rfl ?_
        refine Go.callS D (argsL := [(.ref s)]) (rest := []) (pc' := 58) (ce' := 4) (sl' := 28) (con_ctrlW l Z a0 hw h2' n0 none s cs (S1.ext E2) hid cz hcz O2 fm rf O4 AD HI LO) (hw _ (List.mem_of_getElem? (i := 156) rfl)) (hw _ (List.mem_of_getElem? (i := 157) rfl)) (hw _ (List.mem_of_getElem? (i := 43) rfl)) (hw _ (List.mem_of_getElem? (i := 158) rfl)) (by decide) d24_55 rfl pd33 rfl rfl rfl (by decide) (W := 0) rfl (by decide) (by decide) (by decide) (by decide) (by decide) ?_
        intro v55 h55 σ55 q55
        obtain ⟨rfl, rfl, rfl⟩ := q55
        show Go κ none h2' 4 28 58 #[.val (.ref s), .val (.int (Int32.ofNat n))] [(.int (0 : Int32))]
        refine Go.ifc D (pc' := 71) (pc2 := 61) d24_58 (by decide) (by decide) rfl (fun _ => ?_) (fun (hc : ¬ (0 : Int32) = 0) => absurd hc (by decide))
        refine Go.aloadN D (pc' := 72) d24_71 rfl rfl rfl ?_
        refine Go.aret D rfl rfl rfl d24_72 (by decide) (by decide) ?_
        exact ⟨rfl, rfl, E1.tr E2⟩
      · intro (hc41 : (255 : Int32) < (Int32.ofNat n))
        exact absurd ((own_lt (i := 255) (by omega) (by omega)).mp hc41) (by omega)
abbrev y10 : MethodName := ⟨"com/example/ticks_into_totals/ticksintototals/CounterName", "<init>", "(Ljava/lang/String;Ljava/lang/String;Ljava/lang/String;)V"⟩
theorem d10_0 : decode prog_3_method_1_code 0 = .ok (.aload_n 0, 1) := by decide +kernel
theorem d10_1 : decode prog_3_method_1_code 1 = .ok (.invokespecial 1, 3) := by decide +kernel
theorem d10_4 : decode prog_3_method_1_code 4 = .ok (.ldc 7, 2) := by decide +kernel
theorem d10_6 : decode prog_3_method_1_code 6 = .ok (.aload_n 1, 1) := by decide +kernel
theorem d10_7 : decode prog_3_method_1_code 7 = .ok (.invokestatic 9, 3) := by decide +kernel
theorem d10_10 : decode prog_3_method_1_code 10 = .ok (.pop, 1) := by decide +kernel
theorem d10_11 : decode prog_3_method_1_code 11 = .ok (.aload_n 2, 1) := by decide +kernel
theorem d10_12 : decode prog_3_method_1_code 12 = .ok (.invokestatic 15, 3) := by decide +kernel
theorem d10_15 : decode prog_3_method_1_code 15 = .ok (.pop, 1) := by decide +kernel
theorem d10_16 : decode prog_3_method_1_code 16 = .ok (.ldc 19, 2) := by decide +kernel
theorem d10_18 : decode prog_3_method_1_code 18 = .ok (.aload_n 3, 1) := by decide +kernel
theorem d10_19 : decode prog_3_method_1_code 19 = .ok (.invokestatic 9, 3) := by decide +kernel
theorem d10_22 : decode prog_3_method_1_code 22 = .ok (.pop, 1) := by decide +kernel
theorem d10_23 : decode prog_3_method_1_code 23 = .ok (.aload_n 0, 1) := by decide +kernel
theorem d10_24 : decode prog_3_method_1_code 24 = .ok (.aload_n 1, 1) := by decide +kernel
theorem d10_25 : decode prog_3_method_1_code 25 = .ok (.putfield 21, 3) := by decide +kernel
theorem d10_28 : decode prog_3_method_1_code 28 = .ok (.aload_n 0, 1) := by decide +kernel
theorem d10_29 : decode prog_3_method_1_code 29 = .ok (.aload_n 2, 1) := by decide +kernel
theorem d10_30 : decode prog_3_method_1_code 30 = .ok (.putfield 24, 3) := by decide +kernel
theorem d10_33 : decode prog_3_method_1_code 33 = .ok (.aload_n 0, 1) := by decide +kernel
theorem d10_34 : decode prog_3_method_1_code 34 = .ok (.aload_n 3, 1) := by decide +kernel
theorem d10_35 : decode prog_3_method_1_code 35 = .ok (.putfield 27, 3) := by decide +kernel
theorem d10_38 : decode prog_3_method_1_code 38 = .ok (.return_, 1) := by decide +kernel
theorem pd10 : parseMethodDescriptor "(Ljava/lang/String;Ljava/lang/String;Ljava/lang/String;)V" = some ⟨[(.object "java/lang/String"), (.object "java/lang/String"), (.object "java/lang/String")], none⟩ := by decide +kernel
theorem pn10 : plainFor y10 = true := by first | exact plainFor_of_name (by first | (simp [plainName, overriddenIn]; done) | decide +kernel) | decide +kernel | rfl
set_option maxRecDepth 65536 in
set_option maxHeartbeats 40000000 in
theorem con_ctorG (l : Launch) (Z : State) (a0 : Array Value) (hw : ∀ d ∈ tables_1, d.before a0 Z = true) (h0 : Heap) (n0 : Nat) (Z0 : n0 ≤ h0.size) (t s1 s2 s3 : Addr) (cs1 cs2 cs3 : List Int32) (g0 : n0 ≤ t) (F : TB Z h0 t .null .null .null) (S1 : Str Z h0 s1 cs1) (S2 : GS Z h0 s2 cs2) (S3 : Str Z h0 s3 cs3) (n1 : ¬ cs1 = []) (n2 : ¬ cs2 = []) (n3 : ¬ cs3 = []) (h4 : cs2.length ≤ 2) (ht1 : ∀ c ∈ cs1, TokC c) (hid : ∀ c ∈ cs2, IdW c) (ht3 : ∀ c ∈ cs3, TokC c) (cz : Int32) (hcz : ¬ cz = 0) (O2 : Sta Z Z.heap "java/lang/String" "COMPACT_STRINGS" "Z" (.int cz)) (fm : Value) (rf : fm.isRef = true) (O4 : Sta Z Z.heap "jdk/internal/util/Preconditions" "SIOOBE_FORMATTER" "Ljava/util/function/BiFunction;" fm) (u8 : Addr) (U1 : Sta Z Z.heap "java/nio/charset/StandardCharsets" "UTF_8" "Ljava/nio/charset/Charset;" (.ref u8)) (U2 : Sta Z Z.heap "sun/nio/cs/UTF_8" "INSTANCE" "Lsun/nio/cs/UTF_8;" (.ref u8)) (AD : Sta Z Z.heap "java/lang/StringUTF16" "$assertionsDisabled" "Z" (.int 1)) (HI : Sta Z Z.heap "java/lang/StringUTF16" "HI_BYTE_SHIFT" "I" (.int 0)) (LO : Sta Z Z.heap "java/lang/StringUTF16" "LO_BYTE_SHIFT" "I" (.int 8)) :
    Con l Z y10 prog_3_method_1_code 4 none ({ frames := 7, cells := 8, slots := 64, locals := 165 } : Room) [] #[(.ref t), (.ref s1), (.ref s2), (.ref s3)] none h0 n0 (fun v h τ => τ = none ∧ v = none ∧ Keep h0 h [t] ∧ TB Z h t (.ref s1) (.ref s2) (.ref s3)) := by
  refine Con.of_go pn10 (ls := #[.val (.ref t), .val (.ref s1), .val (.ref s2), .val (.ref s3)]) (fun m => by first | (simp [entryFrame, mkF, argsToLocals, Value.category]; done) | rfl) ?_
  intro κ D
  refine Go.aloadN D (pc' := 1) d10_0 rfl rfl rfl ?_
  refine Go.callI D (argsL := []) (rest := []) (pc' := 4) (ce' := 0) (sl' := 0) (con_rec l Z a0 hw h0 n0 none t) rfl (hw _ (List.mem_of_getElem? (i := 47) rfl)) (hw _ (List.mem_of_getElem? (i := 48) rfl)) (hw _ (List.mem_of_getElem? (i := 50) rfl)) (hw _ (List.mem_of_getElem? (i := 51) rfl)) (by decide) d10_1 rfl pd11 rfl rfl rfl (by decide) (W := 0) rfl (by decide) (by decide) (by decide) (by decide) (by decide) ?_
  intro v1 h1 σ1 q1
  obtain ⟨rfl, rfl, rfl⟩ := q1
  show Go κ none h0 0 0 4 #[.val (.ref t), .val (.ref s1), .val (.ref s2), .val (.ref s3)] []
  refine Go.ldcR D (pc' := 6) (n := 8) (ce' := 2) (sl' := 12) (hw _ (List.mem_of_getElem? (i := 53) rfl)) (wS hw) d10_4 rfl (by decide) (by decide) rfl rfl (by decide) (by decide) ?_
  intro h1 c1 E1
  have Z1 : n0 ≤ h1.size := Nat.le_trans Z0 E1.1
  refine Go.aloadN D (pc' := 7) d10_6 rfl rfl rfl ?_
  refine Go.callS D (argsL := [(.ref c1), (.ref s1)]) (rest := []) (pc' := 10) (ce' := 2) (sl' := 12) (con_chTok l Z a0 hw h1 n0 none c1 s1 cs1 (S1.ext E1) n1 ht1 cz hcz O2 fm rf O4) (hw _ (List.mem_of_getElem? (i := 56) rfl)) (hw _ (List.mem_of_getElem? (i := 57) rfl)) (hw _ (List.mem_of_getElem? (i := 43) rfl)) (hw _ (List.mem_of_getElem? (i := 58) rfl)) (by decide) d10_7 rfl pd12 rfl rfl rfl (by decide) (W := 0) rfl (by decide) (by decide) (by decide) (by decide) (by decide) ?_
  intro v7 h7 σ7 q7
  obtain ⟨rfl, rfl, rfl⟩ := q7
  show Go κ none h1 2 12 10 #[.val (.ref t), .val (.ref s1), .val (.ref s2), .val (.ref s3)] [(.ref s1)]
  refine Go.pop D (pc' := 11) d10_10 rfl rfl ?_
  refine Go.aloadN D (pc' := 12) d10_11 rfl rfl rfl ?_
  refine Go.callS D (argsL := [(.ref s2)]) (rest := []) (pc' := 15) (ce' := 6) (sl' := 40) (con_chkIdG l Z a0 hw h1 n0 Z1 s2 cs2 (S2.ext E1) n2 h4 hid cz hcz O2 fm rf O4 u8 U1 U2 AD HI LO) (hw _ (List.mem_of_getElem? (i := 106) rfl)) (hw _ (List.mem_of_getElem? (i := 107) rfl)) (hw _ (List.mem_of_getElem? (i := 43) rfl)) (hw _ (List.mem_of_getElem? (i := 108) rfl)) (by decide) d10_12 rfl pd24 rfl rfl rfl (by decide) (W := 0) rfl (by decide) (by decide) (by decide) (by decide) (by decide) ?_
  intro v12 h2 σ12 q12
  obtain ⟨rfl, rfl, E2⟩ := q12
  show Go κ none h2 6 40 15 #[.val (.ref t), .val (.ref s1), .val (.ref s2), .val (.ref s3)] [(.ref s2)]
  refine Go.pop D (pc' := 16) d10_15 rfl rfl ?_
  refine Go.ldcR D (pc' := 18) (n := 20) (ce' := 8) (sl' := 64) (hw _ (List.mem_of_getElem? (i := 159) rfl)) (wS hw) d10_16 rfl (by decide) (by decide) rfl rfl (by decide) (by decide) ?_
  intro h3 c3 E3
  have EE := (E1.tr E2).tr E3
  have F3 := F.ext EE
  refine Go.aloadN D (pc' := 19) d10_18 rfl rfl rfl ?_
  refine Go.callS D (argsL := [(.ref c3), (.ref s3)]) (rest := []) (pc' := 22) (ce' := 8) (sl' := 64) (con_chTok l Z a0 hw h3 n0 none c3 s3 cs3 (S3.ext EE) n3 ht3 cz hcz O2 fm rf O4) (hw _ (List.mem_of_getElem? (i := 56) rfl)) (hw _ (List.mem_of_getElem? (i := 57) rfl)) (hw _ (List.mem_of_getElem? (i := 43) rfl)) (hw _ (List.mem_of_getElem? (i := 58) rfl)) (by decide) d10_19 rfl pd12 rfl rfl rfl (by decide) (W := 0) rfl (by decide) (by decide) (by decide) (by decide) (by decide) ?_
  intro v19 h19 σ19 q19
  obtain ⟨rfl, rfl, rfl⟩ := q19
  show Go κ none h3 8 64 22 #[.val (.ref t), .val (.ref s1), .val (.ref s2), .val (.ref s3)] [(.ref s3)]
  refine Go.pop D (pc' := 23) d10_22 rfl rfl ?_
  refine Go.aloadN D (pc' := 24) d10_23 rfl rfl rfl ?_
  refine Go.aloadN D (pc' := 25) d10_24 rfl rfl rfl ?_
  refine Go.putF D (pc' := 28) (hw _ (List.mem_of_getElem? (i := 160) rfl)) d10_25 rfl F3.2.1 F3.1 (Or.inr ⟨(hw _ (List.mem_of_getElem? (i := 161) rfl)), rfl, rfl⟩) (hw _ (List.mem_of_getElem? (i := 42) rfl)) (ty := (.object "java/lang/String")) (by decide) rfl rfl g0 ?_
  intro h4' W4
  have F4 := F3.set1 hw W4
  refine Go.aloadN D (pc' := 29) d10_28 rfl rfl rfl ?_
  refine Go.aloadN D (pc' := 30) d10_29 rfl rfl rfl ?_
  refine Go.putF D (pc' := 33) (hw _ (List.mem_of_getElem? (i := 162) rfl)) d10_30 rfl F4.2.2.1 F4.1 (Or.inr ⟨(hw _ (List.mem_of_getElem? (i := 163) rfl)), rfl, rfl⟩) (hw _ (List.mem_of_getElem? (i := 42) rfl)) (ty := (.object "java/lang/String")) (by decide) rfl rfl g0 ?_
  intro h5 W5
  have F5 := F4.set2 hw W5
  refine Go.aloadN D (pc' := 34) d10_33 rfl rfl rfl ?_
  refine Go.aloadN D (pc' := 35) d10_34 rfl rfl rfl ?_
  refine Go.putF D (pc' := 38) (hw _ (List.mem_of_getElem? (i := 164) rfl)) d10_35 rfl F5.2.2.2 F5.1 (Or.inr ⟨(hw _ (List.mem_of_getElem? (i := 165) rfl)), rfl, rfl⟩) (hw _ (List.mem_of_getElem? (i := 42) rfl)) (ty := (.object "java/lang/String")) (by decide) rfl rfl g0 ?_
  intro h6 W6
  refine Go.vret D rfl d10_38 (by decide) (by decide) ?_
  exact ⟨rfl, rfl, ((((Keep.refl _ _).ext EE).wr W4 (Or.inl (by simp))).wr W5 (Or.inl (by simp))).wr W6 (Or.inl (by simp)), F5.set3 hw W6⟩
set_option maxRecDepth 65536 in
set_option maxHeartbeats 40000000 in
theorem con_leqR (l : Launch) (Z : State) (a0 : Array Value) (hw : ∀ d ∈ tables_1, d.before a0 Z = true) (h0 : Heap) (n0 : Nat) (σ : Sg) (b d : Addr) (kb kd : ClassId) (xs ys : List Int32) (hl : xs.length ≤ 64) (hl2 : ys.length ≤ 64) (B : Arv Z h0 b kb .byte (Int32.ofNat xs.length) (xs.map Value.int) (.int 0)) (D0 : Arv Z h0 d kd .byte (Int32.ofNat ys.length) (ys.map Value.int) (.int 0)) :
    Con l Z y49 jdk_43_method_13_code 3 ((some .boolean)) ({ frames := 0, cells := 0, slots := 0, locals := 0 } : Room) [] #[(.ref b), (.ref d)] σ h0 n0 (fun v h τ => h0 = h ∧ σ = τ ∧ ∃ r, v = some (.int r) ∧ ((r = 1 ∧ xs = ys) ∨ (r = 0 ∧ ¬ xs = ys))) := by
  refine Con.of_go pn49 (ls := #[.val (.ref b), .val (.ref d), .unset]) (fun m => by first | (simp [entryFrame, mkF, argsToLocals, Value.category]; done) | rfl) ?_
  intro κ D
  refine Go.aloadN D (pc' := 1) d49_0 rfl rfl rfl ?_
  refine Go.alen D (pc' := 2) d49_1 rfl B ?_
  refine Go.aloadN D (pc' := 3) d49_2 rfl rfl rfl ?_
  refine Go.alen D (pc' := 4) d49_3 rfl D0 ?_
  refine Go.icmp D (pc' := 34) (pc2 := 7) d49_4 (by decide) (by decide) rfl ?_ ?_
  · intro (hc4 : ¬ (Int32.ofNat xs.length) = (Int32.ofNat ys.length))
    refine Go.iconst D (pc' := 35) d49_34 rfl (v := (0 : Int32)) rfl ?_
    refine Go.zret D rfl rfl d49_35 (by decide) (by decide) ?_
    exact ⟨rfl, rfl, _, rfl, Or.inr ⟨rfl, fun z => hc4 (by rw [z])⟩⟩
  · intro (hc4 : (Int32.ofNat xs.length) = (Int32.ofNat ys.length))
    have hel : xs.length = ys.length := own_inj (by omega) (by omega) hc4
    have loop : ∀ (N i : Nat), xs.length - i = N → i ≤ xs.length → (∀ j, j < i → xs[j]? = ys[j]?) → Go κ σ h0 0 0 9 #[.val (.ref b), .val (.ref d), .val (.int (Int32.ofNat i))] [] := by
      intro N
      induction N using Nat.strongRecOn with
      | _ N ih =>
        intro i hN hi0 hsame
        refine Go.iloadN D (pc' := 10) d49_9 rfl rfl ?_
        refine Go.aloadN D (pc' := 11) d49_10 rfl rfl rfl ?_
        refine Go.alen D (pc' := 12) d49_11 rfl B ?_
        refine Go.icmp D (pc' := 32) (pc2 := 15) d49_12 (by decide) (by decide) rfl ?_ ?_
        · intro (hc12 : ¬ (Int32.ofNat i) < (Int32.ofNat xs.length))
          refine Go.iconst D (pc' := 33) d49_32 rfl (v := (1 : Int32)) rfl ?_
          refine Go.zret D rfl rfl d49_33 (by decide) (by decide) ?_
          refine ⟨rfl, rfl, _, rfl, Or.inl ⟨rfl, ?_⟩⟩
          have hi : i = xs.length := by
            have : ¬ i < xs.length := fun q => hc12 ((own_lt (by omega) (by omega)).mpr q)
            omega
          apply List.ext_getElem? fun j => ?_
          by_cases q : j < xs.length
          · exact hsame j (by omega)
          · rw [List.getElem?_eq_none (by omega), List.getElem?_eq_none (by omega)]
        · intro (hc12 : (Int32.ofNat i) < (Int32.ofNat xs.length))
          have hi : i < xs.length := (own_lt (by omega) (by omega)).mp hc12
          refine Go.aloadN D (pc' := 16) d49_15 rfl rfl rfl ?_
          refine Go.iloadN D (pc' := 17) d49_16 rfl rfl ?_
          refine Go.baload D (pc' := 18) d49_17 rfl B (own_nn (by omega)) hc12 (v := .int xs[i]) (by rw [own_tn (by omega)]; exact cs_at hi _) ?_
          refine Go.aloadN D (pc' := 19) d49_18 rfl rfl rfl ?_
          refine Go.iloadN D (pc' := 20) d49_19 rfl rfl ?_
          refine Go.baload D (pc' := 21) d49_20 rfl D0 (own_nn (by omega)) ((own_lt (by omega) (by omega)).mpr (by omega)) (v := .int (ys[i]'(hel ▸ hi))) (by rw [own_tn (by omega)]; exact cs_at (hel ▸ hi) _) ?_
          refine Go.icmp D (pc' := 26) (pc2 := 24) d49_21 (by decide) (by decide) rfl ?_ ?_
          · intro (hc21 : xs[i] = (ys[i]'(hel ▸ hi)))
            refine Go.iinc D (pc' := 29) d49_26 rfl rfl (d := (1 : Int32)) rfl (ls' := #[.val (.ref b), .val (.ref d), .val (.int ((Int32.ofNat i) + (1 : Int32)))]) rfl ?_
            refine Go.goto D (pc' := 9) d49_29 (by decide) (by decide) ?_
            rw [own_succ]
            exact ih (xs.length - (i + 1)) (by omega) (i + 1) rfl (by omega) (fun j hj => (Nat.lt_or_eq_of_le (Nat.le_of_lt_succ hj)).elim (fun z => hsame j z) (fun z => by subst z; rw [List.getElem?_eq_getElem hi, List.getElem?_eq_getElem (hel ▸ hi), hc21]))
          · intro (hc21 : ¬ xs[i] = (ys[i]'(hel ▸ hi)))
            refine Go.iconst D (pc' := 25) d49_24 rfl (v := (0 : Int32)) rfl ?_
            refine Go.zret D rfl rfl d49_25 (by decide) (by decide) ?_
            refine ⟨rfl, rfl, _, rfl, Or.inr ⟨rfl, fun z => ?_⟩⟩
            subst z
            exact hc21 rfl
    refine Go.iconst D (pc' := 8) d49_7 rfl (v := (0 : Int32)) rfl ?_
    refine Go.istoreN D (pc' := 9) d49_8 rfl (ls' := #[.val (.ref b), .val (.ref d), .val (.int (0 : Int32))]) rfl ?_
    exact loop (xs.length - 0) 0 rfl (by omega) (fun j hj => absurd hj (Nat.not_lt_zero j))
set_option maxRecDepth 65536 in
set_option maxHeartbeats 40000000 in
theorem con_seqG (l : Launch) (Z : State) (a0 : Array Value) (hw : ∀ d ∈ tables_1, d.before a0 Z = true) (h0 : Heap) (n0 : Nat) (σ : Sg) (s u : Addr) (cs ds : List Int32) (S : GS Z h0 s cs) (U : GS Z h0 u ds) (cz : Int32) (hcz : ¬ cz = 0) (O2 : Sta Z Z.heap "java/lang/String" "COMPACT_STRINGS" "Z" (.int cz)) :
    Con l Z y35 jdk_42_method_66_code 3 ((some .boolean)) ({ frames := 1, cells := 0, slots := 0, locals := 14 } : Room) [] #[(.ref s), (.ref u)] σ h0 n0 (fun v h τ => h0 = h ∧ σ = τ ∧ ∃ r, v = some (.int r) ∧ ((r = 1 ∧ cs = ds) ∨ (r = 0 ∧ ¬ cs = ds))) := by
  refine Con.of_go pn35 (ls := #[.val (.ref s), .val (.ref u), .unset]) (fun m => by first | (simp [entryFrame, mkF, argsToLocals, Value.category]; done) | rfl) ?_
  intro κ D
  rcases S with ⟨S, -⟩ | S
  · skip
    rcases U with ⟨U, -⟩ | U
    · skip
      obtain ⟨e1, e2, b, kb, e3, e4⟩ := id S.1
      have hl := S.2.2
      obtain ⟨f1, f2, d, kd, f3, f4⟩ := id U.1
      have hl' := U.2.2
      refine Go.aloadN D (pc' := 1) d35_0 rfl rfl rfl ?_
      refine Go.aloadN D (pc' := 2) d35_1 rfl rfl rfl ?_
      refine Go.acmpNe D (pc' := 7) (pc2 := 5) rfl rfl d35_2 (by decide) (by decide) rfl ?_ ?_
      · intro (hc2 : ¬ (.ref s : Value) = .ref u)
        refine Go.aloadN D (pc' := 8) d35_7 rfl rfl rfl ?_
        refine Go.instY D (pc' := 11) (hw _ (List.mem_of_getElem? (i := 227) rfl)) d35_8 rfl (Ins.self f1) ?_
        refine Go.ifc D (pc' := 54) (pc2 := 14) d35_11 (by decide) (by decide) rfl (fun (hc : (1 : Int32) = 0) => absurd hc (by decide)) (fun _ => ?_)
        refine Go.aloadN D (pc' := 15) d35_14 rfl rfl rfl ?_
        refine Go.castY D (pc' := 18) (hw _ (List.mem_of_getElem? (i := 227) rfl)) d35_15 rfl (Ins.self f1) ?_
        refine Go.astoreN D (pc' := 19) d35_18 rfl rfl (ls' := #[.val (.ref s), .val (.ref u), .val (.ref u)]) rfl ?_
        refine Go.getS D (pc' := 22) (hw _ (List.mem_of_getElem? (i := 25) rfl)) d35_19 rfl O2 ?_
        refine Go.ifc D (pc' := 36) (pc2 := 25) d35_22 (by decide) (by decide) rfl ?_ ?_
        · intro (hc22 : cz = 0)
          exact absurd hc22 hcz
        · intro (hc22 : ¬ cz = 0)
          refine Go.aloadN D (pc' := 26) d35_25 rfl rfl rfl ?_
          refine Go.getF D (pc' := 29) (hw _ (List.mem_of_getElem? (i := 37) rfl)) d35_26 rfl e2 ?_
          refine Go.aloadN D (pc' := 30) d35_29 rfl rfl rfl ?_
          refine Go.getF D (pc' := 33) (hw _ (List.mem_of_getElem? (i := 37) rfl)) d35_30 rfl f2 ?_
          refine Go.icmp D (pc' := 54) (pc2 := 36) d35_33 (by decide) (by decide) rfl (fun (hc : ¬ (0 : Int32) = (0 : Int32)) => absurd hc (by decide)) (fun _ => ?_)
          refine Go.aloadN D (pc' := 37) d35_36 rfl rfl rfl ?_
          refine Go.getF D (pc' := 40) (hw _ (List.mem_of_getElem? (i := 39) rfl)) d35_37 rfl e3 ?_
          refine Go.aloadN D (pc' := 41) d35_40 rfl rfl rfl ?_
          refine Go.getF D (pc' := 44) (hw _ (List.mem_of_getElem? (i := 39) rfl)) d35_41 rfl f3 ?_
          refine Go.callS D (argsL := [(.ref b), (.ref d)]) (rest := []) (pc' := 47) (ce' := 0) (sl' := 0) (con_leq l Z a0 hw h0 n0 σ b d kb kd cs ds e4 f4 S.2 U.2) (hw _ (List.mem_of_getElem? (i := 228) rfl)) (hw _ (List.mem_of_getElem? (i := 229) rfl)) (hw _ (List.mem_of_getElem? (i := 93) rfl)) (hw _ (List.mem_of_getElem? (i := 230) rfl)) (by decide) d35_44 rfl pd49 rfl rfl rfl (by decide) (W := 0) rfl (by decide) (by decide) (by decide) (by decide) (by decide) ?_
          intro v44 h1 σ44 q44
          obtain ⟨rfl, rfl, r, rfl, hr⟩ := q44
          show Go κ σ h0 0 0 47 #[.val (.ref s), .val (.ref u), .val (.ref u)] [(.int r)]
          refine Go.ifc D (pc' := 54) (pc2 := 50) d35_47 (by decide) (by decide) rfl ?_ ?_
          · intro (hc47 : r = 0)
            refine Go.iconst D (pc' := 55) d35_54 rfl (v := (0 : Int32)) rfl ?_
            refine Go.zret D rfl rfl d35_55 (by decide) (by decide) ?_
            exact ⟨rfl, rfl, _, rfl, Or.inr ⟨rfl, hr.elim (fun z => absurd hc47 (by rw [z.1]; decide)) (fun z => z.2)⟩⟩
          · intro (hc47 : ¬ r = 0)
            refine Go.iconst D (pc' := 51) d35_50 rfl (v := (1 : Int32)) rfl ?_
            refine Go.goto D (pc' := 55) d35_51 (by decide) (by decide) ?_
            refine Go.zret D rfl rfl d35_55 (by decide) (by decide) ?_
            exact ⟨rfl, rfl, _, rfl, Or.inl ⟨rfl, hr.elim (fun z => z.2) (fun z => absurd z.1 hc47)⟩⟩
      · intro (hc2 : (.ref s : Value) = .ref u)
        refine Go.iconst D (pc' := 6) d35_5 rfl (v := (1 : Int32)) rfl ?_
        refine Go.zret D rfl rfl d35_6 (by decide) (by decide) ?_
        have e : s = u := by injection hc2
        subst e
        exact ⟨rfl, rfl, _, rfl, Or.inl ⟨rfl, S.uniq U⟩⟩
    · skip
      obtain ⟨e1, e2, b, kb, e3, e4⟩ := id S.1
      have hl := S.2.2
      obtain ⟨⟨f1, f2, d, kd, f3, f4⟩, h16', h4', hbig'⟩ := id U
      have hnq : s ≠ u := Fld.ne e2 f2 (by decide)
      have hnc : ¬ cs = ds := fun e => by
        obtain ⟨c, hc, hn⟩ := hbig'
        exact hn (S.2.1 c (e ▸ hc)).2
      refine Go.aloadN D (pc' := 1) d35_0 rfl rfl rfl ?_
      refine Go.aloadN D (pc' := 2) d35_1 rfl rfl rfl ?_
      refine Go.acmpNe D (pc' := 7) (pc2 := 5) rfl rfl d35_2 (by decide) (by decide) rfl ?_ ?_
      · intro (hc2 : ¬ (.ref s : Value) = .ref u)
        refine Go.aloadN D (pc' := 8) d35_7 rfl rfl rfl ?_
        refine Go.instY D (pc' := 11) (hw _ (List.mem_of_getElem? (i := 227) rfl)) d35_8 rfl (Ins.self f1) ?_
        refine Go.ifc D (pc' := 54) (pc2 := 14) d35_11 (by decide) (by decide) rfl (fun (hc : (1 : Int32) = 0) => absurd hc (by decide)) (fun _ => ?_)
        refine Go.aloadN D (pc' := 15) d35_14 rfl rfl rfl ?_
        refine Go.castY D (pc' := 18) (hw _ (List.mem_of_getElem? (i := 227) rfl)) d35_15 rfl (Ins.self f1) ?_
        refine Go.astoreN D (pc' := 19) d35_18 rfl rfl (ls' := #[.val (.ref s), .val (.ref u), .val (.ref u)]) rfl ?_
        refine Go.getS D (pc' := 22) (hw _ (List.mem_of_getElem? (i := 25) rfl)) d35_19 rfl O2 ?_
        refine Go.ifc D (pc' := 36) (pc2 := 25) d35_22 (by decide) (by decide) rfl ?_ ?_
        · intro (hc22 : cz = 0)
          exact absurd hc22 hcz
        · intro (hc22 : ¬ cz = 0)
          refine Go.aloadN D (pc' := 26) d35_25 rfl rfl rfl ?_
          refine Go.getF D (pc' := 29) (hw _ (List.mem_of_getElem? (i := 37) rfl)) d35_26 rfl e2 ?_
          refine Go.aloadN D (pc' := 30) d35_29 rfl rfl rfl ?_
          refine Go.getF D (pc' := 33) (hw _ (List.mem_of_getElem? (i := 37) rfl)) d35_30 rfl f2 ?_
          refine Go.icmp D (pc' := 54) (pc2 := 36) d35_33 (by decide) (by decide) rfl (fun _ => ?_) (fun (hc : (0 : Int32) = (1 : Int32)) => absurd hc (by decide))
          refine Go.iconst D (pc' := 55) d35_54 rfl (v := (0 : Int32)) rfl ?_
          refine Go.zret D rfl rfl d35_55 (by decide) (by decide) ?_
          exact ⟨rfl, rfl, _, rfl, Or.inr ⟨rfl, hnc⟩⟩
      · intro (hc2 : (.ref s : Value) = .ref u)
        exact absurd (by injection hc2) hnq
  · skip
    rcases U with ⟨U, -⟩ | U
    · skip
      obtain ⟨⟨e1, e2, b, kb, e3, e4⟩, h16, h4, hbig⟩ := id S
      obtain ⟨f1, f2, d, kd, f3, f4⟩ := id U.1
      have hl' := U.2.2
      have hnq : s ≠ u := Fld.ne e2 f2 (by decide)
      have hnc : ¬ cs = ds := fun e => by
        obtain ⟨c, hc, hn⟩ := hbig
        exact hn (U.2.1 c (e ▸ hc)).2
      refine Go.aloadN D (pc' := 1) d35_0 rfl rfl rfl ?_
      refine Go.aloadN D (pc' := 2) d35_1 rfl rfl rfl ?_
      refine Go.acmpNe D (pc' := 7) (pc2 := 5) rfl rfl d35_2 (by decide) (by decide) rfl ?_ ?_
      · intro (hc2 : ¬ (.ref s : Value) = .ref u)
        refine Go.aloadN D (pc' := 8) d35_7 rfl rfl rfl ?_
        refine Go.instY D (pc' := 11) (hw _ (List.mem_of_getElem? (i := 227) rfl)) d35_8 rfl (Ins.self f1) ?_
        refine Go.ifc D (pc' := 54) (pc2 := 14) d35_11 (by decide) (by decide) rfl (fun (hc : (1 : Int32) = 0) => absurd hc (by decide)) (fun _ => ?_)
        refine Go.aloadN D (pc' := 15) d35_14 rfl rfl rfl ?_
        refine Go.castY D (pc' := 18) (hw _ (List.mem_of_getElem? (i := 227) rfl)) d35_15 rfl (Ins.self f1) ?_
        refine Go.astoreN D (pc' := 19) d35_18 rfl rfl (ls' := #[.val (.ref s), .val (.ref u), .val (.ref u)]) rfl ?_
        refine Go.getS D (pc' := 22) (hw _ (List.mem_of_getElem? (i := 25) rfl)) d35_19 rfl O2 ?_
        refine Go.ifc D (pc' := 36) (pc2 := 25) d35_22 (by decide) (by decide) rfl ?_ ?_
        · intro (hc22 : cz = 0)
          exact absurd hc22 hcz
        · intro (hc22 : ¬ cz = 0)
          refine Go.aloadN D (pc' := 26) d35_25 rfl rfl rfl ?_
          refine Go.getF D (pc' := 29) (hw _ (List.mem_of_getElem? (i := 37) rfl)) d35_26 rfl e2 ?_
          refine Go.aloadN D (pc' := 30) d35_29 rfl rfl rfl ?_
          refine Go.getF D (pc' := 33) (hw _ (List.mem_of_getElem? (i := 37) rfl)) d35_30 rfl f2 ?_
          refine Go.icmp D (pc' := 54) (pc2 := 36) d35_33 (by decide) (by decide) rfl (fun _ => ?_) (fun (hc : (1 : Int32) = (0 : Int32)) => absurd hc (by decide))
          refine Go.iconst D (pc' := 55) d35_54 rfl (v := (0 : Int32)) rfl ?_
          refine Go.zret D rfl rfl d35_55 (by decide) (by decide) ?_
          exact ⟨rfl, rfl, _, rfl, Or.inr ⟨rfl, hnc⟩⟩
      · intro (hc2 : (.ref s : Value) = .ref u)
        exact absurd (by injection hc2) hnq
    · skip
      obtain ⟨⟨e1, e2, b, kb, e3, e4⟩, h16, h4, hbig⟩ := id S
      obtain ⟨⟨f1, f2, d, kd, f3, f4⟩, h16', h4', hbig'⟩ := id U
      refine Go.aloadN D (pc' := 1) d35_0 rfl rfl rfl ?_
      refine Go.aloadN D (pc' := 2) d35_1 rfl rfl rfl ?_
      refine Go.acmpNe D (pc' := 7) (pc2 := 5) rfl rfl d35_2 (by decide) (by decide) rfl ?_ ?_
      · intro (hc2 : ¬ (.ref s : Value) = .ref u)
        refine Go.aloadN D (pc' := 8) d35_7 rfl rfl rfl ?_
        refine Go.instY D (pc' := 11) (hw _ (List.mem_of_getElem? (i := 227) rfl)) d35_8 rfl (Ins.self f1) ?_
        refine Go.ifc D (pc' := 54) (pc2 := 14) d35_11 (by decide) (by decide) rfl (fun (hc : (1 : Int32) = 0) => absurd hc (by decide)) (fun _ => ?_)
        refine Go.aloadN D (pc' := 15) d35_14 rfl rfl rfl ?_
        refine Go.castY D (pc' := 18) (hw _ (List.mem_of_getElem? (i := 227) rfl)) d35_15 rfl (Ins.self f1) ?_
        refine Go.astoreN D (pc' := 19) d35_18 rfl rfl (ls' := #[.val (.ref s), .val (.ref u), .val (.ref u)]) rfl ?_
        refine Go.getS D (pc' := 22) (hw _ (List.mem_of_getElem? (i := 25) rfl)) d35_19 rfl O2 ?_
        refine Go.ifc D (pc' := 36) (pc2 := 25) d35_22 (by decide) (by decide) rfl ?_ ?_
        · intro (hc22 : cz = 0)
          exact absurd hc22 hcz
        · intro (hc22 : ¬ cz = 0)
          refine Go.aloadN D (pc' := 26) d35_25 rfl rfl rfl ?_
          refine Go.getF D (pc' := 29) (hw _ (List.mem_of_getElem? (i := 37) rfl)) d35_26 rfl e2 ?_
          refine Go.aloadN D (pc' := 30) d35_29 rfl rfl rfl ?_
          refine Go.getF D (pc' := 33) (hw _ (List.mem_of_getElem? (i := 37) rfl)) d35_30 rfl f2 ?_
          refine Go.icmp D (pc' := 54) (pc2 := 36) d35_33 (by decide) (by decide) rfl (fun (hc : ¬ (1 : Int32) = (1 : Int32)) => absurd hc (by decide)) (fun _ => ?_)
          refine Go.aloadN D (pc' := 37) d35_36 rfl rfl rfl ?_
          refine Go.getF D (pc' := 40) (hw _ (List.mem_of_getElem? (i := 39) rfl)) d35_37 rfl e3 ?_
          refine Go.aloadN D (pc' := 41) d35_40 rfl rfl rfl ?_
          refine Go.getF D (pc' := 44) (hw _ (List.mem_of_getElem? (i := 39) rfl)) d35_41 rfl f3 ?_
          refine Go.callS D (argsL := [(.ref b), (.ref d)]) (rest := []) (pc' := 47) (ce' := 0) (sl' := 0) (con_leqR l Z a0 hw h0 n0 σ b d kb kd (ubl cs) (ubl ds) (by rw [ubl_len]; omega) (by rw [ubl_len]; omega) (by rw [ubl_len]; exact e4) (by rw [ubl_len]; exact f4)) (hw _ (List.mem_of_getElem? (i := 228) rfl)) (hw _ (List.mem_of_getElem? (i := 229) rfl)) (hw _ (List.mem_of_getElem? (i := 93) rfl)) (hw _ (List.mem_of_getElem? (i := 230) rfl)) (by decide) d35_44 rfl pd49 rfl rfl rfl (by decide) (W := 0) rfl (by decide) (by decide) (by decide) (by decide) (by decide) ?_
          intro v44 h1 σ44 q44
          obtain ⟨rfl, rfl, r, rfl, hr0⟩ := q44
          have hr : (r = 1 ∧ cs = ds) ∨ (r = 0 ∧ ¬ cs = ds) := hr0.imp (fun z => ⟨z.1, ubl_inj h16 h16' z.2⟩) (fun z => ⟨z.1, fun q => z.2 (by rw [q])⟩)
          show Go κ σ h0 0 0 47 #[.val (.ref s), .val (.ref u), .val (.ref u)] [(.int r)]
          refine Go.ifc D (pc' := 54) (pc2 := 50) d35_47 (by decide) (by decide) rfl ?_ ?_
          · intro (hc47 : r = 0)
            refine Go.iconst D (pc' := 55) d35_54 rfl (v := (0 : Int32)) rfl ?_
            refine Go.zret D rfl rfl d35_55 (by decide) (by decide) ?_
            exact ⟨rfl, rfl, _, rfl, Or.inr ⟨rfl, hr.elim (fun z => absurd hc47 (by rw [z.1]; decide)) (fun z => z.2)⟩⟩
          · intro (hc47 : ¬ r = 0)
            refine Go.iconst D (pc' := 51) d35_50 rfl (v := (1 : Int32)) rfl ?_
            refine Go.goto D (pc' := 55) d35_51 (by decide) (by decide) ?_
            refine Go.zret D rfl rfl d35_55 (by decide) (by decide) ?_
            exact ⟨rfl, rfl, _, rfl, Or.inl ⟨rfl, hr.elim (fun z => z.2) (fun z => absurd z.1 hc47)⟩⟩
      · intro (hc2 : (.ref s : Value) = .ref u)
        refine Go.iconst D (pc' := 6) d35_5 rfl (v := (1 : Int32)) rfl ?_
        refine Go.zret D rfl rfl d35_6 (by decide) (by decide) ?_
        have e : s = u := by injection hc2
        subst e
        exact ⟨rfl, rfl, _, rfl, Or.inl ⟨rfl, S.uniq U⟩⟩
abbrev y34 : MethodName := ⟨"com/example/ticks_into_totals/ticksintototals/CounterName", "equals", "(Ljava/lang/Object;)Z"⟩
theorem d34_0 : decode prog_3_method_2_code 0 = .ok (.aload_n 1, 1) := by decide +kernel
theorem d34_1 : decode prog_3_method_2_code 1 = .ok (.instanceof 10, 3) := by decide +kernel
theorem d34_4 : decode prog_3_method_2_code 4 = .ok (.ifCond .eq 54, 3) := by decide +kernel
theorem d34_7 : decode prog_3_method_2_code 7 = .ok (.aload_n 1, 1) := by decide +kernel
theorem d34_8 : decode prog_3_method_2_code 8 = .ok (.checkcast 10, 3) := by decide +kernel
theorem d34_11 : decode prog_3_method_2_code 11 = .ok (.astore_n 2, 1) := by decide +kernel
theorem d34_12 : decode prog_3_method_2_code 12 = .ok (.aload_n 0, 1) := by decide +kernel
theorem d34_13 : decode prog_3_method_2_code 13 = .ok (.getfield 21, 3) := by decide +kernel
theorem d34_16 : decode prog_3_method_2_code 16 = .ok (.aload_n 2, 1) := by decide +kernel
theorem d34_17 : decode prog_3_method_2_code 17 = .ok (.getfield 21, 3) := by decide +kernel
theorem d34_20 : decode prog_3_method_2_code 20 = .ok (.invokevirtual 29, 3) := by decide +kernel
theorem d34_23 : decode prog_3_method_2_code 23 = .ok (.ifCond .eq 35, 3) := by decide +kernel
theorem d34_26 : decode prog_3_method_2_code 26 = .ok (.aload_n 0, 1) := by decide +kernel
theorem d34_27 : decode prog_3_method_2_code 27 = .ok (.getfield 24, 3) := by decide +kernel
theorem d34_30 : decode prog_3_method_2_code 30 = .ok (.aload_n 2, 1) := by decide +kernel
theorem d34_31 : decode prog_3_method_2_code 31 = .ok (.getfield 24, 3) := by decide +kernel
theorem d34_34 : decode prog_3_method_2_code 34 = .ok (.invokevirtual 29, 3) := by decide +kernel
theorem d34_37 : decode prog_3_method_2_code 37 = .ok (.ifCond .eq 21, 3) := by decide +kernel
theorem d34_40 : decode prog_3_method_2_code 40 = .ok (.aload_n 0, 1) := by decide +kernel
theorem d34_41 : decode prog_3_method_2_code 41 = .ok (.getfield 27, 3) := by decide +kernel
theorem d34_44 : decode prog_3_method_2_code 44 = .ok (.aload_n 2, 1) := by decide +kernel
theorem d34_45 : decode prog_3_method_2_code 45 = .ok (.getfield 27, 3) := by decide +kernel
theorem d34_48 : decode prog_3_method_2_code 48 = .ok (.invokevirtual 29, 3) := by decide +kernel
theorem d34_51 : decode prog_3_method_2_code 51 = .ok (.ifCond .eq 7, 3) := by decide +kernel
theorem d34_54 : decode prog_3_method_2_code 54 = .ok (.iconst 1, 1) := by decide +kernel
theorem d34_55 : decode prog_3_method_2_code 55 = .ok (.goto 4, 3) := by decide +kernel
theorem d34_58 : decode prog_3_method_2_code 58 = .ok (.iconst 0, 1) := by decide +kernel
theorem d34_59 : decode prog_3_method_2_code 59 = .ok (.ireturn, 1) := by decide +kernel
theorem pd34 : parseMethodDescriptor "(Ljava/lang/Object;)Z" = some ⟨[(.object "java/lang/Object")], (some .boolean)⟩ := by decide +kernel
theorem pn34 : plainFor y34 = true := by first | exact plainFor_of_name (by first | (simp [plainName, overriddenIn]; done) | decide +kernel) | decide +kernel | rfl
set_option maxRecDepth 65536 in
set_option maxHeartbeats 40000000 in
theorem con_eqG (l : Launch) (Z : State) (a0 : Array Value) (hw : ∀ d ∈ tables_1, d.before a0 Z = true) (h0 : Heap) (n0 : Nat) (σ : Sg) (t o s1 s2 s3 u1 u2 u3 : Addr) (cs1 cs2 cs3 ds1 ds2 ds3 : List Int32) (F : TB Z h0 t (.ref s1) (.ref s2) (.ref s3)) (G : TB Z h0 o (.ref u1) (.ref u2) (.ref u3)) (S1 : Str Z h0 s1 cs1) (U1 : Str Z h0 u1 ds1) (S2 : GS Z h0 s2 cs2) (U2 : GS Z h0 u2 ds2) (S3 : Str Z h0 s3 cs3) (U3 : Str Z h0 u3 ds3) (cz : Int32) (hcz : ¬ cz = 0) (O2 : Sta Z Z.heap "java/lang/String" "COMPACT_STRINGS" "Z" (.int cz)) :
    Con l Z y34 prog_3_method_2_code 3 ((some .boolean)) ({ frames := 2, cells := 0, slots := 0, locals := 40 } : Room) [] #[(.ref t), (.ref o)] σ h0 n0 (fun v h τ => h0 = h ∧ σ = τ ∧ ∃ r, v = some (.int r) ∧ ((r = 1 ∧ cs1 = ds1 ∧ cs2 = ds2 ∧ cs3 = ds3) ∨ (r = 0 ∧ ¬ (cs1 = ds1 ∧ cs2 = ds2 ∧ cs3 = ds3)))) := by
  refine Con.of_go pn34 (ls := #[.val (.ref t), .val (.ref o), .unset]) (fun m => by first | (simp [entryFrame, mkF, argsToLocals, Value.category]; done) | rfl) ?_
  intro κ D
  refine Go.aloadN D (pc' := 1) d34_0 rfl rfl rfl ?_
  refine Go.instY D (pc' := 4) (hw _ (List.mem_of_getElem? (i := 171) rfl)) d34_1 rfl (Ins.self G.1) ?_
  refine Go.ifc D (pc' := 58) (pc2 := 7) d34_4 (by decide) (by decide) rfl (fun (hc : (1 : Int32) = 0) => absurd hc (by decide)) (fun _ => ?_)
  refine Go.aloadN D (pc' := 8) d34_7 rfl rfl rfl ?_
  refine Go.castY D (pc' := 11) (hw _ (List.mem_of_getElem? (i := 171) rfl)) d34_8 rfl (Ins.self G.1) ?_
  refine Go.astoreN D (pc' := 12) d34_11 rfl rfl (ls' := #[.val (.ref t), .val (.ref o), .val (.ref o)]) rfl ?_
  refine Go.aloadN D (pc' := 13) d34_12 rfl rfl rfl ?_
  refine Go.getF D (pc' := 16) (hw _ (List.mem_of_getElem? (i := 160) rfl)) d34_13 rfl F.2.1 ?_
  refine Go.aloadN D (pc' := 17) d34_16 rfl rfl rfl ?_
  refine Go.getF D (pc' := 20) (hw _ (List.mem_of_getElem? (i := 160) rfl)) d34_17 rfl G.2.1 ?_
  refine Go.callV D (argsL := [(.ref u1)]) (rest := []) (pc' := 23) (ce' := 0) (sl' := 0) (con_seq l Z a0 hw h0 n0 σ s1 u1 cs1 ds1 S1 U1 cz hcz O2) (hw _ (List.mem_of_getElem? (i := 173) rfl)) (hw _ (List.mem_of_getElem? (i := 174) rfl)) (hw _ (List.mem_of_getElem? (i := 176) rfl)) (hw _ (List.mem_of_getElem? (i := 175) rfl)) (hw _ (List.mem_of_getElem? (i := 13) rfl)) (hw _ (List.mem_of_getElem? (i := 177) rfl)) (nfS (hw _ (List.mem_of_getElem? (i := 176) rfl))) (by decide) S1.1.1 d34_20 rfl pd35 rfl rfl rfl (by decide) (W := 0) rfl (by decide) (by decide) (by decide) (by decide) (by decide) ?_
  intro v20 h20 σ20 q20
  obtain ⟨rfl, rfl, r1, rfl, hr1⟩ := q20
  show Go κ σ h0 0 0 23 #[.val (.ref t), .val (.ref o), .val (.ref o)] [(.int r1)]
  refine Go.ifc D (pc' := 58) (pc2 := 26) d34_23 (by decide) (by decide) rfl ?_ ?_
  · intro (hc23 : r1 = 0)
    refine Go.iconst D (pc' := 59) d34_58 rfl (v := (0 : Int32)) rfl ?_
    refine Go.zret D rfl rfl d34_59 (by decide) (by decide) ?_
    exact ⟨rfl, rfl, _, rfl, Or.inr ⟨rfl, fun q => hr1.elim (fun z => absurd hc23 (by rw [z.1]; decide)) (fun z => z.2 q.1)⟩⟩
  · intro (hc23 : ¬ r1 = 0)
    refine Go.aloadN D (pc' := 27) d34_26 rfl rfl rfl ?_
    refine Go.getF D (pc' := 30) (hw _ (List.mem_of_getElem? (i := 162) rfl)) d34_27 rfl F.2.2.1 ?_
    refine Go.aloadN D (pc' := 31) d34_30 rfl rfl rfl ?_
    refine Go.getF D (pc' := 34) (hw _ (List.mem_of_getElem? (i := 162) rfl)) d34_31 rfl G.2.2.1 ?_
    refine Go.callV D (argsL := [(.ref u2)]) (rest := []) (pc' := 37) (ce' := 0) (sl' := 0) (con_seqG l Z a0 hw h0 n0 σ s2 u2 cs2 ds2 S2 U2 cz hcz O2) (hw _ (List.mem_of_getElem? (i := 173) rfl)) (hw _ (List.mem_of_getElem? (i := 174) rfl)) (hw _ (List.mem_of_getElem? (i := 176) rfl)) (hw _ (List.mem_of_getElem? (i := 175) rfl)) (hw _ (List.mem_of_getElem? (i := 13) rfl)) (hw _ (List.mem_of_getElem? (i := 177) rfl)) (nfS (hw _ (List.mem_of_getElem? (i := 176) rfl))) (by decide) S2.exa d34_34 rfl pd35 rfl rfl rfl (by decide) (W := 0) rfl (by decide) (by decide) (by decide) (by decide) (by decide) ?_
    intro v34 h34 σ34 q34
    obtain ⟨rfl, rfl, r2, rfl, hr2⟩ := q34
    show Go κ σ h0 0 0 37 #[.val (.ref t), .val (.ref o), .val (.ref o)] [(.int r2)]
    refine Go.ifc D (pc' := 58) (pc2 := 40) d34_37 (by decide) (by decide) rfl ?_ ?_
    · intro (hc37 : r2 = 0)
      refine Go.iconst D (pc' := 59) d34_58 rfl (v := (0 : Int32)) rfl ?_
      refine Go.zret D rfl rfl d34_59 (by decide) (by decide) ?_
      exact ⟨rfl, rfl, _, rfl, Or.inr ⟨rfl, fun q => hr2.elim (fun z => absurd hc37 (by rw [z.1]; decide)) (fun z => z.2 q.2.1)⟩⟩
    · intro (hc37 : ¬ r2 = 0)
      refine Go.aloadN D (pc' := 41) d34_40 rfl rfl rfl ?_
      refine Go.getF D (pc' := 44) (hw _ (List.mem_of_getElem? (i := 164) rfl)) d34_41 rfl F.2.2.2 ?_
      refine Go.aloadN D (pc' := 45) d34_44 rfl rfl rfl ?_
      refine Go.getF D (pc' := 48) (hw _ (List.mem_of_getElem? (i := 164) rfl)) d34_45 rfl G.2.2.2 ?_
      refine Go.callV D (argsL := [(.ref u3)]) (rest := []) (pc' := 51) (ce' := 0) (sl' := 0) (con_seq l Z a0 hw h0 n0 σ s3 u3 cs3 ds3 S3 U3 cz hcz O2) (hw _ (List.mem_of_getElem? (i := 173) rfl)) (hw _ (List.mem_of_getElem? (i := 174) rfl)) (hw _ (List.mem_of_getElem? (i := 176) rfl)) (hw _ (List.mem_of_getElem? (i := 175) rfl)) (hw _ (List.mem_of_getElem? (i := 13) rfl)) (hw _ (List.mem_of_getElem? (i := 177) rfl)) (nfS (hw _ (List.mem_of_getElem? (i := 176) rfl))) (by decide) S3.1.1 d34_48 rfl pd35 rfl rfl rfl (by decide) (W := 0) rfl (by decide) (by decide) (by decide) (by decide) (by decide) ?_
      intro v48 h48 σ48 q48
      obtain ⟨rfl, rfl, r3, rfl, hr3⟩ := q48
      show Go κ σ h0 0 0 51 #[.val (.ref t), .val (.ref o), .val (.ref o)] [(.int r3)]
      refine Go.ifc D (pc' := 58) (pc2 := 54) d34_51 (by decide) (by decide) rfl ?_ ?_
      · intro (hc51 : r3 = 0)
        refine Go.iconst D (pc' := 59) d34_58 rfl (v := (0 : Int32)) rfl ?_
        refine Go.zret D rfl rfl d34_59 (by decide) (by decide) ?_
        exact ⟨rfl, rfl, _, rfl, Or.inr ⟨rfl, fun q => hr3.elim (fun z => absurd hc51 (by rw [z.1]; decide)) (fun z => z.2 q.2.2)⟩⟩
      · intro (hc51 : ¬ r3 = 0)
        refine Go.iconst D (pc' := 55) d34_54 rfl (v := (1 : Int32)) rfl ?_
        refine Go.goto D (pc' := 59) d34_55 (by decide) (by decide) ?_
        refine Go.zret D rfl rfl d34_59 (by decide) (by decide) ?_
        exact ⟨rfl, rfl, _, rfl, Or.inl ⟨rfl, hr1.elim (fun z => z.2) (fun z => absurd z.1 hc23), hr2.elim (fun z => z.2) (fun z => absurd z.1 hc37), hr3.elim (fun z => z.2) (fun z => absurd z.1 hc51)⟩⟩
set_option maxRecDepth 65536 in
set_option maxHeartbeats 40000000 in
theorem con_eqNull (l : Launch) (Z : State) (a0 : Array Value) (hw : ∀ d ∈ tables_1, d.before a0 Z = true) (h0 : Heap) (n0 : Nat) (σ : Sg) (t : Addr) :
    Con l Z y34 prog_3_method_2_code 3 ((some .boolean)) ({ frames := 0, cells := 0, slots := 0, locals := 0 } : Room) [] #[(.ref t), (.null)] σ h0 n0 (fun v h τ => h0 = h ∧ σ = τ ∧ v = some (.int 0)) := by
  refine Con.of_go pn34 (ls := #[.val (.ref t), .val (.null), .unset]) (fun m => by first | (simp [entryFrame, mkF, argsToLocals, Value.category]; done) | rfl) ?_
  intro κ D
  refine Go.aloadN D (pc' := 1) d34_0 rfl rfl rfl ?_
  refine Go.instNull D (pc' := 4) d34_1 rfl ?_
  refine Go.ifc D (pc' := 58) (pc2 := 7) d34_4 (by decide) (by decide) rfl (fun _ => ?_) (fun (hc : ¬ (0 : Int32) = 0) => absurd hc (by decide))
  refine Go.iconst D (pc' := 59) d34_58 rfl (v := (0 : Int32)) rfl ?_
  refine Go.zret D rfl rfl d34_59 (by decide) (by decide) ?_
  exact ⟨rfl, rfl, rfl⟩
set_option maxRecDepth 65536 in
set_option maxHeartbeats 40000000 in
theorem con_eqStr (l : Launch) (Z : State) (a0 : Array Value) (hw : ∀ d ∈ tables_1, d.before a0 Z = true) (h0 : Heap) (n0 : Nat) (σ : Sg) (t o : Addr) (X : Exa Z h0 o "java/lang/String") :
    Con l Z y34 prog_3_method_2_code 3 ((some .boolean)) ({ frames := 0, cells := 0, slots := 0, locals := 0 } : Room) [] #[(.ref t), (.ref o)] σ h0 n0 (fun v h τ => h0 = h ∧ σ = τ ∧ v = some (.int 0)) := by
  refine Con.of_go pn34 (ls := #[.val (.ref t), .val (.ref o), .unset]) (fun m => by first | (simp [entryFrame, mkF, argsToLocals, Value.category]; done) | rfl) ?_
  intro κ D
  refine Go.aloadN D (pc' := 1) d34_0 rfl rfl rfl ?_
  refine Go.instN D (pc' := 4) (hw _ (List.mem_of_getElem? (i := 171) rfl)) d34_1 rfl (str_no (hw _ (List.mem_of_getElem? (i := 178) rfl)) (hw _ (List.mem_of_getElem? (i := 179) rfl)) (hw _ (List.mem_of_getElem? (i := 42) rfl)) (by decide) (by decide)) X ?_
  refine Go.ifc D (pc' := 58) (pc2 := 7) d34_4 (by decide) (by decide) rfl (fun _ => ?_) (fun (hc : ¬ (0 : Int32) = 0) => absurd hc (by decide))
  refine Go.iconst D (pc' := 59) d34_58 rfl (v := (0 : Int32)) rfl ?_
  refine Go.zret D rfl rfl d34_59 (by decide) (by decide) ?_
  exact ⟨rfl, rfl, rfl⟩
abbrev y1 : MethodName := ⟨"com/example/ticks_into_totals/ticksintototals/CounterNameEqualsPinLaw", "idc", "(I)C"⟩
theorem d1_0 : decode method_3_code 0 = .ok (.iload_n 0, 1) := by decide +kernel
theorem d1_1 : decode method_3_code 1 = .ok (.ldc 7, 2) := by decide +kernel
theorem d1_3 : decode method_3_code 3 = .ok (.iand, 1) := by decide +kernel
theorem d1_4 : decode method_3_code 4 = .ok (.istore_n 1, 1) := by decide +kernel
theorem d1_5 : decode method_3_code 5 = .ok (.iload_n 1, 1) := by decide +kernel
theorem d1_6 : decode method_3_code 6 = .ok (.bipush 32, 2) := by decide +kernel
theorem d1_8 : decode method_3_code 8 = .ok (.if_icmp .lt 9, 3) := by decide +kernel
theorem d1_11 : decode method_3_code 11 = .ok (.iload_n 1, 1) := by decide +kernel
theorem d1_12 : decode method_3_code 12 = .ok (.bipush 127, 2) := by decide +kernel
theorem d1_14 : decode method_3_code 14 = .ok (.if_icmp .ne 11, 3) := by decide +kernel
theorem d1_17 : decode method_3_code 17 = .ok (.iload_n 1, 1) := by decide +kernel
theorem d1_18 : decode method_3_code 18 = .ok (.bipush 64, 2) := by decide +kernel
theorem d1_20 : decode method_3_code 20 = .ok (.ixor, 1) := by decide +kernel
theorem d1_21 : decode method_3_code 21 = .ok (.istore_n 1, 1) := by decide +kernel
theorem d1_22 : decode method_3_code 22 = .ok (.goto 21, 3) := by decide +kernel
theorem d1_25 : decode method_3_code 25 = .ok (.iload_n 1, 1) := by decide +kernel
theorem d1_26 : decode method_3_code 26 = .ok (.ldc 8, 2) := by decide +kernel
theorem d1_28 : decode method_3_code 28 = .ok (.if_icmp .lt 15, 3) := by decide +kernel
theorem d1_31 : decode method_3_code 31 = .ok (.iload_n 1, 1) := by decide +kernel
theorem d1_32 : decode method_3_code 32 = .ok (.ldc 9, 2) := by decide +kernel
theorem d1_34 : decode method_3_code 34 = .ok (.if_icmp .gt 9, 3) := by decide +kernel
theorem d1_37 : decode method_3_code 37 = .ok (.iload_n 1, 1) := by decide +kernel
theorem d1_38 : decode method_3_code 38 = .ok (.sipush 16384, 3) := by decide +kernel
theorem d1_41 : decode method_3_code 41 = .ok (.ixor, 1) := by decide +kernel
theorem d1_42 : decode method_3_code 42 = .ok (.istore_n 1, 1) := by decide +kernel
theorem d1_43 : decode method_3_code 43 = .ok (.iload_n 1, 1) := by decide +kernel
theorem d1_44 : decode method_3_code 44 = .ok (.i2c, 1) := by decide +kernel
theorem d1_45 : decode method_3_code 45 = .ok (.ireturn, 1) := by decide +kernel
theorem pd1 : parseMethodDescriptor "(I)C" = some ⟨[.int], (some .char)⟩ := by decide +kernel
theorem pn1 : plainFor y1 = true := by first | exact plainFor_of_name (by first | (simp [plainName, overriddenIn]; done) | decide +kernel) | decide +kernel | rfl
set_option maxRecDepth 65536 in
set_option maxHeartbeats 40000000 in
theorem con_idc (l : Launch) (Z : State) (a0 : Array Value) (hw : ∀ d ∈ tables_1, d.before a0 Z = true) (h0 : Heap) (n0 : Nat) (σ : Sg) (x : Int32) :
    Con l Z y1 method_3_code 2 ((some .char)) ({ frames := 0, cells := 0, slots := 0, locals := 0 } : Room) [] #[(.int x)] σ h0 n0 (fun v h τ => h0 = h ∧ σ = τ ∧ ∃ r, v = some (.int r) ∧ IdW r) := by
  refine Con.of_go pn1 (ls := #[.val (.int x), .unset]) (fun m => by first | (simp [entryFrame, mkF, argsToLocals, Value.category]; done) | rfl) ?_
  intro κ D
  refine Go.iloadN D (pc' := 1) d1_0 rfl rfl ?_
  refine Go.ldcInt D (pc' := 3) (hw _ (List.mem_of_getElem? (i := 4) rfl)) d1_1 rfl ?_
  refine Go.iand D (pc' := 4) d1_3 rfl  ?_
  have b1 := c_and x 65535 (by decide)
  rw [show (65535 : Int32).toInt = 65535 from rfl] at b1
  obtain ⟨k, hk⟩ : ∃ k, k = (x &&& (65535 : Int32)) := ⟨_, rfl⟩
  rw [← hk] at b1 ⊢
  refine Go.istoreN D (pc' := 5) d1_4 rfl (ls' := #[.val (.int x), .val (.int k)]) rfl ?_
  refine Go.iloadN D (pc' := 6) d1_5 rfl rfl ?_
  refine Go.bipush D (pc' := 8) d1_6 rfl (v := (32 : Int32)) rfl ?_
  refine Go.icmp D (pc' := 17) (pc2 := 11) d1_8 (by decide) (by decide) rfl ?_ ?_
  · intro (hc8 : k < (32 : Int32))
    refine Go.iloadN D (pc' := 18) d1_17 rfl rfl ?_
    refine Go.bipush D (pc' := 20) d1_18 rfl (v := (64 : Int32)) rfl ?_
    refine Go.ixor D (pc' := 21) d1_20 rfl  ?_
    refine Go.istoreN D (pc' := 22) d1_21 rfl (ls' := #[.val (.int x), .val (.int (k ^^^ (64 : Int32)))]) rfl ?_
    refine Go.goto D (pc' := 43) d1_22 (by decide) (by decide) ?_
    refine Go.iloadN D (pc' := 44) d1_43 rfl rfl ?_
    have t1 : IdW ((k ^^^ (64 : Int32))) := by
      have a1 := xor1 b1.1 hc8
      unfold IdW
      simp only [Int32.lt_iff_toInt_lt, ← Int32.toInt_inj, show (0 : Int32).toInt = 0 from rfl, show (8 : Int32).toInt = 8 from rfl, show (32 : Int32).toInt = 32 from rfl, show (64 : Int32).toInt = 64 from rfl, show (127 : Int32).toInt = 127 from rfl, show (255 : Int32).toInt = 255 from rfl, show (256 : Int32).toInt = 256 from rfl, show (65536 : Int32).toInt = 65536 from rfl, show (55296 : Int32).toInt = 55296 from rfl, show (56320 : Int32).toInt = 56320 from rfl, show (57343 : Int32).toInt = 57343 from rfl, show (57344 : Int32).toInt = 57344 from rfl, show (16384 : Int32).toInt = 16384 from rfl] at hc8 ⊢
      omega
    refine Go.i2c D (pc' := 45) d1_44 rfl  ?_
    rw [char16_nar t1.c16]
    refine Go.cret D rfl (congrArg Value.int (char16_nar t1.c16)) d1_45 (by decide) (by decide) ?_
    exact ⟨rfl, rfl, _, rfl, t1⟩
  · intro (hc8 : ¬ k < (32 : Int32))
    refine Go.iloadN D (pc' := 12) d1_11 rfl rfl ?_
    refine Go.bipush D (pc' := 14) d1_12 rfl (v := (127 : Int32)) rfl ?_
    refine Go.icmp D (pc' := 25) (pc2 := 17) d1_14 (by decide) (by decide) rfl ?_ ?_
    · intro (hc14 : ¬ k = (127 : Int32))
      refine Go.iloadN D (pc' := 26) d1_25 rfl rfl ?_
      refine Go.ldcInt D (pc' := 28) (hw _ (List.mem_of_getElem? (i := 180) rfl)) d1_26 rfl ?_
      refine Go.icmp D (pc' := 43) (pc2 := 31) d1_28 (by decide) (by decide) rfl ?_ ?_
      · intro (hc28 : k < (55296 : Int32))
        refine Go.iloadN D (pc' := 44) d1_43 rfl rfl ?_
        have t1 : IdW (k) := by
          skip
          unfold IdW
          simp only [Int32.lt_iff_toInt_lt, ← Int32.toInt_inj, show (0 : Int32).toInt = 0 from rfl, show (8 : Int32).toInt = 8 from rfl, show (32 : Int32).toInt = 32 from rfl, show (64 : Int32).toInt = 64 from rfl, show (127 : Int32).toInt = 127 from rfl, show (255 : Int32).toInt = 255 from rfl, show (256 : Int32).toInt = 256 from rfl, show (65536 : Int32).toInt = 65536 from rfl, show (55296 : Int32).toInt = 55296 from rfl, show (56320 : Int32).toInt = 56320 from rfl, show (57343 : Int32).toInt = 57343 from rfl, show (57344 : Int32).toInt = 57344 from rfl, show (16384 : Int32).toInt = 16384 from rfl] at hc8 hc14 hc28 ⊢
          omega
        refine Go.i2c D (pc' := 45) d1_44 rfl  ?_
        rw [char16_nar t1.c16]
        refine Go.cret D rfl (congrArg Value.int (char16_nar t1.c16)) d1_45 (by decide) (by decide) ?_
        exact ⟨rfl, rfl, _, rfl, t1⟩
      · intro (hc28 : ¬ k < (55296 : Int32))
        refine Go.iloadN D (pc' := 32) d1_31 rfl rfl ?_
        refine Go.ldcInt D (pc' := 34) (hw _ (List.mem_of_getElem? (i := 231) rfl)) d1_32 rfl ?_
        refine Go.icmp D (pc' := 43) (pc2 := 37) d1_34 (by decide) (by decide) rfl ?_ ?_
        · intro (hc34 : (57343 : Int32) < k)
          refine Go.iloadN D (pc' := 44) d1_43 rfl rfl ?_
          have t1 : IdW (k) := by
            skip
            unfold IdW
            simp only [Int32.lt_iff_toInt_lt, ← Int32.toInt_inj, show (0 : Int32).toInt = 0 from rfl, show (8 : Int32).toInt = 8 from rfl, show (32 : Int32).toInt = 32 from rfl, show (64 : Int32).toInt = 64 from rfl, show (127 : Int32).toInt = 127 from rfl, show (255 : Int32).toInt = 255 from rfl, show (256 : Int32).toInt = 256 from rfl, show (65536 : Int32).toInt = 65536 from rfl, show (55296 : Int32).toInt = 55296 from rfl, show (56320 : Int32).toInt = 56320 from rfl, show (57343 : Int32).toInt = 57343 from rfl, show (57344 : Int32).toInt = 57344 from rfl, show (16384 : Int32).toInt = 16384 from rfl] at hc8 hc14 hc28 hc34 ⊢
            omega
          refine Go.i2c D (pc' := 45) d1_44 rfl  ?_
          rw [char16_nar t1.c16]
          refine Go.cret D rfl (congrArg Value.int (char16_nar t1.c16)) d1_45 (by decide) (by decide) ?_
          exact ⟨rfl, rfl, _, rfl, t1⟩
        · intro (hc34 : ¬ (57343 : Int32) < k)
          refine Go.iloadN D (pc' := 38) d1_37 rfl rfl ?_
          refine Go.sipush D (pc' := 41) d1_38 rfl (v := (16384 : Int32)) rfl ?_
          refine Go.ixor D (pc' := 42) d1_41 rfl  ?_
          refine Go.istoreN D (pc' := 43) d1_42 rfl (ls' := #[.val (.int x), .val (.int (k ^^^ (16384 : Int32)))]) rfl ?_
          refine Go.iloadN D (pc' := 44) d1_43 rfl rfl ?_
          have t1 : IdW ((k ^^^ (16384 : Int32))) := by
            have a1 := xor2 hc28 hc34
            unfold IdW
            simp only [Int32.lt_iff_toInt_lt, ← Int32.toInt_inj, show (0 : Int32).toInt = 0 from rfl, show (8 : Int32).toInt = 8 from rfl, show (32 : Int32).toInt = 32 from rfl, show (64 : Int32).toInt = 64 from rfl, show (127 : Int32).toInt = 127 from rfl, show (255 : Int32).toInt = 255 from rfl, show (256 : Int32).toInt = 256 from rfl, show (65536 : Int32).toInt = 65536 from rfl, show (55296 : Int32).toInt = 55296 from rfl, show (56320 : Int32).toInt = 56320 from rfl, show (57343 : Int32).toInt = 57343 from rfl, show (57344 : Int32).toInt = 57344 from rfl, show (16384 : Int32).toInt = 16384 from rfl] at hc8 hc14 hc28 hc34 ⊢
            omega
          refine Go.i2c D (pc' := 45) d1_44 rfl  ?_
          rw [char16_nar t1.c16]
          refine Go.cret D rfl (congrArg Value.int (char16_nar t1.c16)) d1_45 (by decide) (by decide) ?_
          exact ⟨rfl, rfl, _, rfl, t1⟩
    · intro (hc14 : k = (127 : Int32))
      refine Go.iloadN D (pc' := 18) d1_17 rfl rfl ?_
      refine Go.bipush D (pc' := 20) d1_18 rfl (v := (64 : Int32)) rfl ?_
      refine Go.ixor D (pc' := 21) d1_20 rfl  ?_
      refine Go.istoreN D (pc' := 22) d1_21 rfl (ls' := #[.val (.int x), .val (.int (k ^^^ (64 : Int32)))]) rfl ?_
      refine Go.goto D (pc' := 43) d1_22 (by decide) (by decide) ?_
      refine Go.iloadN D (pc' := 44) d1_43 rfl rfl ?_
      have t1 : IdW ((k ^^^ (64 : Int32))) := by
        have a1 : (k ^^^ (64 : Int32)).toInt = 63 := by rw [hc14]; rfl
        unfold IdW
        simp only [Int32.lt_iff_toInt_lt, ← Int32.toInt_inj, show (0 : Int32).toInt = 0 from rfl, show (8 : Int32).toInt = 8 from rfl, show (32 : Int32).toInt = 32 from rfl, show (64 : Int32).toInt = 64 from rfl, show (127 : Int32).toInt = 127 from rfl, show (255 : Int32).toInt = 255 from rfl, show (256 : Int32).toInt = 256 from rfl, show (65536 : Int32).toInt = 65536 from rfl, show (55296 : Int32).toInt = 55296 from rfl, show (56320 : Int32).toInt = 56320 from rfl, show (57343 : Int32).toInt = 57343 from rfl, show (57344 : Int32).toInt = 57344 from rfl, show (16384 : Int32).toInt = 16384 from rfl] at hc8 hc14 ⊢
        omega
      refine Go.i2c D (pc' := 45) d1_44 rfl  ?_
      rw [char16_nar t1.c16]
      refine Go.cret D rfl (congrArg Value.int (char16_nar t1.c16)) d1_45 (by decide) (by decide) ?_
      exact ⟨rfl, rfl, _, rfl, t1⟩
abbrev y2 : MethodName := ⟨"com/example/ticks_into_totals/ticksintototals/CounterNameEqualsPinLaw", "tok", "(I)C"⟩
theorem d2_0 : decode method_2_code 0 = .ok (.iload_n 0, 1) := by decide +kernel
theorem d2_1 : decode method_2_code 1 = .ok (.bipush 26, 2) := by decide +kernel
theorem d2_3 : decode method_2_code 3 = .ok (.if_icmp .ge 9, 3) := by decide +kernel
theorem d2_6 : decode method_2_code 6 = .ok (.bipush 65, 2) := by decide +kernel
theorem d2_8 : decode method_2_code 8 = .ok (.iload_n 0, 1) := by decide +kernel
theorem d2_9 : decode method_2_code 9 = .ok (.iadd, 1) := by decide +kernel
theorem d2_10 : decode method_2_code 10 = .ok (.i2c, 1) := by decide +kernel
theorem d2_11 : decode method_2_code 11 = .ok (.ireturn, 1) := by decide +kernel
theorem d2_12 : decode method_2_code 12 = .ok (.iload_n 0, 1) := by decide +kernel
theorem d2_13 : decode method_2_code 13 = .ok (.bipush 52, 2) := by decide +kernel
theorem d2_15 : decode method_2_code 15 = .ok (.if_icmp .ge 12, 3) := by decide +kernel
theorem d2_18 : decode method_2_code 18 = .ok (.bipush 97, 2) := by decide +kernel
theorem d2_20 : decode method_2_code 20 = .ok (.iload_n 0, 1) := by decide +kernel
theorem d2_21 : decode method_2_code 21 = .ok (.bipush 26, 2) := by decide +kernel
theorem d2_23 : decode method_2_code 23 = .ok (.isub, 1) := by decide +kernel
theorem d2_24 : decode method_2_code 24 = .ok (.iadd, 1) := by decide +kernel
theorem d2_25 : decode method_2_code 25 = .ok (.i2c, 1) := by decide +kernel
theorem d2_26 : decode method_2_code 26 = .ok (.ireturn, 1) := by decide +kernel
theorem d2_27 : decode method_2_code 27 = .ok (.iload_n 0, 1) := by decide +kernel
theorem d2_28 : decode method_2_code 28 = .ok (.bipush 62, 2) := by decide +kernel
theorem d2_30 : decode method_2_code 30 = .ok (.if_icmp .ge 12, 3) := by decide +kernel
theorem d2_33 : decode method_2_code 33 = .ok (.bipush 48, 2) := by decide +kernel
theorem d2_35 : decode method_2_code 35 = .ok (.iload_n 0, 1) := by decide +kernel
theorem d2_36 : decode method_2_code 36 = .ok (.bipush 52, 2) := by decide +kernel
theorem d2_38 : decode method_2_code 38 = .ok (.isub, 1) := by decide +kernel
theorem d2_39 : decode method_2_code 39 = .ok (.iadd, 1) := by decide +kernel
theorem d2_40 : decode method_2_code 40 = .ok (.i2c, 1) := by decide +kernel
theorem d2_41 : decode method_2_code 41 = .ok (.ireturn, 1) := by decide +kernel
theorem d2_42 : decode method_2_code 42 = .ok (.iload_n 0, 1) := by decide +kernel
theorem d2_43 : decode method_2_code 43 = .ok (.bipush 62, 2) := by decide +kernel
theorem d2_45 : decode method_2_code 45 = .ok (.if_icmp .ne 6, 3) := by decide +kernel
theorem d2_48 : decode method_2_code 48 = .ok (.bipush 95, 2) := by decide +kernel
theorem d2_50 : decode method_2_code 50 = .ok (.ireturn, 1) := by decide +kernel
theorem d2_51 : decode method_2_code 51 = .ok (.iload_n 0, 1) := by decide +kernel
theorem d2_52 : decode method_2_code 52 = .ok (.bipush 63, 2) := by decide +kernel
theorem d2_54 : decode method_2_code 54 = .ok (.if_icmp .ne 6, 3) := by decide +kernel
theorem d2_57 : decode method_2_code 57 = .ok (.bipush 46, 2) := by decide +kernel
theorem d2_59 : decode method_2_code 59 = .ok (.ireturn, 1) := by decide +kernel
theorem d2_60 : decode method_2_code 60 = .ok (.bipush 45, 2) := by decide +kernel
theorem d2_62 : decode method_2_code 62 = .ok (.ireturn, 1) := by decide +kernel
theorem pd2 : parseMethodDescriptor "(I)C" = some ⟨[.int], (some .char)⟩ := by decide +kernel
theorem pn2 : plainFor y2 = true := by first | exact plainFor_of_name (by first | (simp [plainName, overriddenIn]; done) | decide +kernel) | decide +kernel | rfl
set_option maxRecDepth 65536 in
set_option maxHeartbeats 40000000 in
theorem con_tok (l : Launch) (Z : State) (a0 : Array Value) (hw : ∀ d ∈ tables_1, d.before a0 Z = true) (h0 : Heap) (n0 : Nat) (σ : Sg) (k : Int32) (hk : ¬ k < 0 ∧ k < 65) :
    Con l Z y2 method_2_code 1 ((some .char)) ({ frames := 0, cells := 0, slots := 0, locals := 0 } : Room) [] #[(.int k)] σ h0 n0 (fun v h τ => h0 = h ∧ σ = τ ∧ ∃ r, v = some (.int r) ∧ TokC r) := by
  refine Con.of_go pn2 (ls := #[.val (.int k)]) (fun m => by first | (simp [entryFrame, mkF, argsToLocals, Value.category]; done) | rfl) ?_
  intro κ D
  refine Go.iloadN D (pc' := 1) d2_0 rfl rfl ?_
  refine Go.bipush D (pc' := 3) d2_1 rfl (v := (26 : Int32)) rfl ?_
  refine Go.icmp D (pc' := 12) (pc2 := 6) d2_3 (by decide) (by decide) rfl ?_ ?_
  · intro (hc3 : ¬ k < (26 : Int32))
    refine Go.iloadN D (pc' := 13) d2_12 rfl rfl ?_
    refine Go.bipush D (pc' := 15) d2_13 rfl (v := (52 : Int32)) rfl ?_
    refine Go.icmp D (pc' := 27) (pc2 := 18) d2_15 (by decide) (by decide) rfl ?_ ?_
    · intro (hc15 : ¬ k < (52 : Int32))
      refine Go.iloadN D (pc' := 28) d2_27 rfl rfl ?_
      refine Go.bipush D (pc' := 30) d2_28 rfl (v := (62 : Int32)) rfl ?_
      refine Go.icmp D (pc' := 42) (pc2 := 33) d2_30 (by decide) (by decide) rfl ?_ ?_
      · intro (hc30 : ¬ k < (62 : Int32))
        refine Go.iloadN D (pc' := 43) d2_42 rfl rfl ?_
        refine Go.bipush D (pc' := 45) d2_43 rfl (v := (62 : Int32)) rfl ?_
        refine Go.icmp D (pc' := 51) (pc2 := 48) d2_45 (by decide) (by decide) rfl ?_ ?_
        · intro (hc45 : ¬ k = (62 : Int32))
          refine Go.iloadN D (pc' := 52) d2_51 rfl rfl ?_
          refine Go.bipush D (pc' := 54) d2_52 rfl (v := (63 : Int32)) rfl ?_
          refine Go.icmp D (pc' := 60) (pc2 := 57) d2_54 (by decide) (by decide) rfl ?_ ?_
          · intro (hc54 : ¬ k = (63 : Int32))
            refine Go.bipush D (pc' := 62) d2_60 rfl (v := (45 : Int32)) rfl ?_
            refine Go.cret D rfl rfl d2_62 (by decide) (by decide) ?_
            exact ⟨rfl, rfl, _, rfl, by unfold TokC; decide⟩
          · intro (hc54 : k = (63 : Int32))
            refine Go.bipush D (pc' := 59) d2_57 rfl (v := (46 : Int32)) rfl ?_
            refine Go.cret D rfl rfl d2_59 (by decide) (by decide) ?_
            exact ⟨rfl, rfl, _, rfl, by unfold TokC; decide⟩
        · intro (hc45 : k = (62 : Int32))
          refine Go.bipush D (pc' := 50) d2_48 rfl (v := (95 : Int32)) rfl ?_
          refine Go.cret D rfl rfl d2_50 (by decide) (by decide) ?_
          exact ⟨rfl, rfl, _, rfl, by unfold TokC; decide⟩
      · intro (hc30 : k < (62 : Int32))
        refine Go.bipush D (pc' := 35) d2_33 rfl (v := (48 : Int32)) rfl ?_
        refine Go.iloadN D (pc' := 36) d2_35 rfl rfl ?_
        refine Go.bipush D (pc' := 38) d2_36 rfl (v := (52 : Int32)) rfl ?_
        refine Go.isub D (pc' := 39) d2_38 rfl  ?_
        refine Go.iadd D (pc' := 40) d2_39 rfl  ?_
        refine Go.i2c D (pc' := 41) d2_40 rfl  ?_
        have a0' := c_isub k 52
        have a0'' := rng32 (k - 52)
        have t1 : TokC ((48 : Int32) + (k - (52 : Int32))) := by
          unfold TokC
          have a1 := And.intro (c_iadd 48 (k - 52)) (And.intro a0' a0'')
          have a2 := rng32 ((48 : Int32) + (k - (52 : Int32)))
          obtain ⟨b0, b1⟩ := hk
          simp only [Int32.lt_iff_toInt_lt, ← Int32.toInt_inj, show (0 : Int32).toInt = 0 from rfl, show (26 : Int32).toInt = 26 from rfl, show (45 : Int32).toInt = 45 from rfl, show (46 : Int32).toInt = 46 from rfl, show (48 : Int32).toInt = 48 from rfl, show (52 : Int32).toInt = 52 from rfl, show (57 : Int32).toInt = 57 from rfl, show (62 : Int32).toInt = 62 from rfl, show (63 : Int32).toInt = 63 from rfl, show (65 : Int32).toInt = 65 from rfl, show (90 : Int32).toInt = 90 from rfl, show (95 : Int32).toInt = 95 from rfl, show (97 : Int32).toInt = 97 from rfl, show (122 : Int32).toInt = 122 from rfl, show (256 : Int32).toInt = 256 from rfl] at hc3 hc15 hc30 b0 b1 a1 a2 ⊢
          omega
        rw [char_nar t1.lat]
        refine Go.cret D rfl (congrArg Value.int (char_nar t1.lat)) d2_41 (by decide) (by decide) ?_
        exact ⟨rfl, rfl, _, rfl, t1⟩
    · intro (hc15 : k < (52 : Int32))
      refine Go.bipush D (pc' := 20) d2_18 rfl (v := (97 : Int32)) rfl ?_
      refine Go.iloadN D (pc' := 21) d2_20 rfl rfl ?_
      refine Go.bipush D (pc' := 23) d2_21 rfl (v := (26 : Int32)) rfl ?_
      refine Go.isub D (pc' := 24) d2_23 rfl  ?_
      refine Go.iadd D (pc' := 25) d2_24 rfl  ?_
      refine Go.i2c D (pc' := 26) d2_25 rfl  ?_
      have a0' := c_isub k 26
      have a0'' := rng32 (k - 26)
      have t1 : TokC ((97 : Int32) + (k - (26 : Int32))) := by
        unfold TokC
        have a1 := And.intro (c_iadd 97 (k - 26)) (And.intro a0' a0'')
        have a2 := rng32 ((97 : Int32) + (k - (26 : Int32)))
        obtain ⟨b0, b1⟩ := hk
        simp only [Int32.lt_iff_toInt_lt, ← Int32.toInt_inj, show (0 : Int32).toInt = 0 from rfl, show (26 : Int32).toInt = 26 from rfl, show (45 : Int32).toInt = 45 from rfl, show (46 : Int32).toInt = 46 from rfl, show (48 : Int32).toInt = 48 from rfl, show (52 : Int32).toInt = 52 from rfl, show (57 : Int32).toInt = 57 from rfl, show (62 : Int32).toInt = 62 from rfl, show (63 : Int32).toInt = 63 from rfl, show (65 : Int32).toInt = 65 from rfl, show (90 : Int32).toInt = 90 from rfl, show (95 : Int32).toInt = 95 from rfl, show (97 : Int32).toInt = 97 from rfl, show (122 : Int32).toInt = 122 from rfl, show (256 : Int32).toInt = 256 from rfl] at hc3 hc15 b0 b1 a1 a2 ⊢
        omega
      rw [char_nar t1.lat]
      refine Go.cret D rfl (congrArg Value.int (char_nar t1.lat)) d2_26 (by decide) (by decide) ?_
      exact ⟨rfl, rfl, _, rfl, t1⟩
  · intro (hc3 : k < (26 : Int32))
    refine Go.bipush D (pc' := 8) d2_6 rfl (v := (65 : Int32)) rfl ?_
    refine Go.iloadN D (pc' := 9) d2_8 rfl rfl ?_
    refine Go.iadd D (pc' := 10) d2_9 rfl  ?_
    refine Go.i2c D (pc' := 11) d2_10 rfl  ?_
    have t1 : TokC ((65 : Int32) + k) := by
      unfold TokC
      have a1 := c_iadd 65 k
      have a2 := rng32 ((65 : Int32) + k)
      obtain ⟨b0, b1⟩ := hk
      simp only [Int32.lt_iff_toInt_lt, ← Int32.toInt_inj, show (0 : Int32).toInt = 0 from rfl, show (26 : Int32).toInt = 26 from rfl, show (45 : Int32).toInt = 45 from rfl, show (46 : Int32).toInt = 46 from rfl, show (48 : Int32).toInt = 48 from rfl, show (52 : Int32).toInt = 52 from rfl, show (57 : Int32).toInt = 57 from rfl, show (62 : Int32).toInt = 62 from rfl, show (63 : Int32).toInt = 63 from rfl, show (65 : Int32).toInt = 65 from rfl, show (90 : Int32).toInt = 90 from rfl, show (95 : Int32).toInt = 95 from rfl, show (97 : Int32).toInt = 97 from rfl, show (122 : Int32).toInt = 122 from rfl, show (256 : Int32).toInt = 256 from rfl] at hc3 b0 b1 a1 a2 ⊢
      omega
    rw [char_nar t1.lat]
    refine Go.cret D rfl (congrArg Value.int (char_nar t1.lat)) d2_11 (by decide) (by decide) ?_
    exact ⟨rfl, rfl, _, rfl, t1⟩
theorem pd0 : parseMethodDescriptor "(IIIIII)Z" = some ⟨[.int, .int, .int, .int, .int, .int], (some .boolean)⟩ := by decide +kernel
theorem pn0 : plainFor x = true := by first | exact plainFor_of_name (by first | (simp [plainName, overriddenIn]; done) | decide +kernel) | decide +kernel | rfl
set_option maxRecDepth 65536 in
set_option maxHeartbeats 40000000 in
theorem con_law (l : Launch) (Z : State) (a0 : Array Value) (hw : ∀ d ∈ tables_1, d.before a0 Z = true) (h0 : Heap) (n0 : Nat) (Z0 : n0 ≤ h0.size) (cz : Int32) (hcz : ¬ cz = 0) (O2 : Sta Z Z.heap "java/lang/String" "COMPACT_STRINGS" "Z" (.int cz)) (fm : Value) (rf : fm.isRef = true) (O4 : Sta Z Z.heap "jdk/internal/util/Preconditions" "SIOOBE_FORMATTER" "Ljava/util/function/BiFunction;" fm) (u8 : Addr) (U1 : Sta Z Z.heap "java/nio/charset/StandardCharsets" "UTF_8" "Ljava/nio/charset/Charset;" (.ref u8)) (U2 : Sta Z Z.heap "sun/nio/cs/UTF_8" "INSTANCE" "Lsun/nio/cs/UTF_8;" (.ref u8)) (AD : Sta Z Z.heap "java/lang/StringUTF16" "$assertionsDisabled" "Z" (.int 1)) (HI : Sta Z Z.heap "java/lang/StringUTF16" "HI_BYTE_SHIFT" "I" (.int 0)) (LO : Sta Z Z.heap "java/lang/StringUTF16" "LO_BYTE_SHIFT" "I" (.int 8)) (i0 i1 i2 i3 i4 i5 : Int32) :
    Con l Z x code maxLocals ret room_1 tables_1 #[(.int i0), (.int i1), (.int i2), (.int i3), (.int i4), (.int i5)] none h0 n0 (fun v h τ => v = some (.int 1)) := by
  refine Con.of_go pn0 (ls := #[.val (.int i0), .val (.int i1), .val (.int i2), .val (.int i3), .val (.int i4), .val (.int i5), .unset, .unset, .unset, .unset, .unset, .unset, .unset, .unset, .unset, .unset, .unset, .unset, .unset, .unset, .unset, .unset, .unset, .unset, .unset, .unset, .unset, .unset, .unset, .unset, .unset, .unset, .unset, .unset, .unset, .unset, .unset, .unset, .unset, .unset, .unset, .unset, .unset, .unset]) (fun m => by first | (simp [entryFrame, mkF, argsToLocals, Value.category, maxLocals]; done) | rfl) ?_
  intro κ D
  refine Go.iloadN D (pc' := 1) at_0 rfl rfl ?_
  refine Go.sipush D (pc' := 4) at_1 rfl (v := (255 : Int32)) rfl ?_
  refine Go.iand D (pc' := 5) at_4 rfl  ?_
  refine Go.bipush D (pc' := 7) at_5 rfl (v := (65 : Int32)) rfl ?_
  refine Go.irem D (pc' := 8) at_7 rfl (by decide) ?_
  obtain ⟨ia, eia⟩ : ∃ x, x = ((i0 &&& (255 : Int32)) % (65 : Int32)) := ⟨_, rfl⟩
  rw [← eia]
  have hia := k65_and i0
  rw [← eia] at hia
  refine Go.istore D (pc' := 10) at_8 rfl (ls' := #[.val (.int i0), .val (.int i1), .val (.int i2), .val (.int i3), .val (.int i4), .val (.int i5), .val (.int ia), .unset, .unset, .unset, .unset, .unset, .unset, .unset, .unset, .unset, .unset, .unset, .unset, .unset, .unset, .unset, .unset, .unset, .unset, .unset, .unset, .unset, .unset, .unset, .unset, .unset, .unset, .unset, .unset, .unset, .unset, .unset, .unset, .unset, .unset, .unset, .unset, .unset]) rfl ?_
  refine Go.iloadN D (pc' := 11) at_10 rfl rfl ?_
  refine Go.bipush D (pc' := 13) at_11 rfl (v := (8 : Int32)) rfl ?_
  refine Go.iushr D (pc' := 14) at_13 rfl  ?_
  refine Go.sipush D (pc' := 17) at_14 rfl (v := (255 : Int32)) rfl ?_
  refine Go.iand D (pc' := 18) at_17 rfl  ?_
  refine Go.bipush D (pc' := 20) at_18 rfl (v := (65 : Int32)) rfl ?_
  refine Go.irem D (pc' := 21) at_20 rfl (by decide) ?_
  obtain ⟨ib, eib⟩ : ∃ x, x = (((ushr i0 (8 : Int32)) &&& (255 : Int32)) % (65 : Int32)) := ⟨_, rfl⟩
  rw [← eib]
  have hib := k65_and (ushr i0 8)
  rw [← eib] at hib
  refine Go.istore D (pc' := 23) at_21 rfl (ls' := #[.val (.int i0), .val (.int i1), .val (.int i2), .val (.int i3), .val (.int i4), .val (.int i5), .val (.int ia), .val (.int ib), .unset, .unset, .unset, .unset, .unset, .unset, .unset, .unset, .unset, .unset, .unset, .unset, .unset, .unset, .unset, .unset, .unset, .unset, .unset, .unset, .unset, .unset, .unset, .unset, .unset, .unset, .unset, .unset, .unset, .unset, .unset, .unset, .unset, .unset, .unset, .unset]) rfl ?_
  refine Go.iloadN D (pc' := 24) at_23 rfl rfl ?_
  refine Go.bipush D (pc' := 26) at_24 rfl (v := (16 : Int32)) rfl ?_
  refine Go.iushr D (pc' := 27) at_26 rfl  ?_
  refine Go.iconst D (pc' := 28) at_27 rfl (v := (1 : Int32)) rfl ?_
  refine Go.iand D (pc' := 29) at_28 rfl  ?_
  refine Go.iconst D (pc' := 30) at_29 rfl (v := (1 : Int32)) rfl ?_
  refine Go.iadd D (pc' := 31) at_30 rfl  ?_
  obtain ⟨la, ela⟩ : ∃ x, x = (((ushr i0 (16 : Int32)) &&& (1 : Int32)) + (1 : Int32)) := ⟨_, rfl⟩
  rw [← ela]
  have hla := l12_and (ushr i0 16)
  rw [← ela] at hla
  refine Go.istore D (pc' := 33) at_31 rfl (ls' := #[.val (.int i0), .val (.int i1), .val (.int i2), .val (.int i3), .val (.int i4), .val (.int i5), .val (.int ia), .val (.int ib), .val (.int la), .unset, .unset, .unset, .unset, .unset, .unset, .unset, .unset, .unset, .unset, .unset, .unset, .unset, .unset, .unset, .unset, .unset, .unset, .unset, .unset, .unset, .unset, .unset, .unset, .unset, .unset, .unset, .unset, .unset, .unset, .unset, .unset, .unset, .unset, .unset]) rfl ?_
  refine Go.iloadN D (pc' := 34) at_33 rfl rfl ?_
  refine Go.sipush D (pc' := 37) at_34 rfl (v := (255 : Int32)) rfl ?_
  refine Go.iand D (pc' := 38) at_37 rfl  ?_
  refine Go.bipush D (pc' := 40) at_38 rfl (v := (65 : Int32)) rfl ?_
  refine Go.irem D (pc' := 41) at_40 rfl (by decide) ?_
  obtain ⟨fa, efa⟩ : ∃ x, x = ((i2 &&& (255 : Int32)) % (65 : Int32)) := ⟨_, rfl⟩
  rw [← efa]
  have hfa := k65_and i2
  rw [← efa] at hfa
  refine Go.istore D (pc' := 43) at_41 rfl (ls' := #[.val (.int i0), .val (.int i1), .val (.int i2), .val (.int i3), .val (.int i4), .val (.int i5), .val (.int ia), .val (.int ib), .val (.int la), .val (.int fa), .unset, .unset, .unset, .unset, .unset, .unset, .unset, .unset, .unset, .unset, .unset, .unset, .unset, .unset, .unset, .unset, .unset, .unset, .unset, .unset, .unset, .unset, .unset, .unset, .unset, .unset, .unset, .unset, .unset, .unset, .unset, .unset, .unset, .unset]) rfl ?_
  refine Go.iloadN D (pc' := 44) at_43 rfl rfl ?_
  refine Go.bipush D (pc' := 46) at_44 rfl (v := (8 : Int32)) rfl ?_
  refine Go.iushr D (pc' := 47) at_46 rfl  ?_
  refine Go.sipush D (pc' := 50) at_47 rfl (v := (255 : Int32)) rfl ?_
  refine Go.iand D (pc' := 51) at_50 rfl  ?_
  refine Go.bipush D (pc' := 53) at_51 rfl (v := (65 : Int32)) rfl ?_
  refine Go.irem D (pc' := 54) at_53 rfl (by decide) ?_
  obtain ⟨fb, efb⟩ : ∃ x, x = (((ushr i2 (8 : Int32)) &&& (255 : Int32)) % (65 : Int32)) := ⟨_, rfl⟩
  rw [← efb]
  have hfb := k65_and (ushr i2 8)
  rw [← efb] at hfb
  refine Go.istore D (pc' := 56) at_54 rfl (ls' := #[.val (.int i0), .val (.int i1), .val (.int i2), .val (.int i3), .val (.int i4), .val (.int i5), .val (.int ia), .val (.int ib), .val (.int la), .val (.int fa), .val (.int fb), .unset, .unset, .unset, .unset, .unset, .unset, .unset, .unset, .unset, .unset, .unset, .unset, .unset, .unset, .unset, .unset, .unset, .unset, .unset, .unset, .unset, .unset, .unset, .unset, .unset, .unset, .unset, .unset, .unset, .unset, .unset, .unset, .unset]) rfl ?_
  refine Go.iloadN D (pc' := 57) at_56 rfl rfl ?_
  refine Go.bipush D (pc' := 59) at_57 rfl (v := (16 : Int32)) rfl ?_
  refine Go.iushr D (pc' := 60) at_59 rfl  ?_
  refine Go.iconst D (pc' := 61) at_60 rfl (v := (1 : Int32)) rfl ?_
  refine Go.iand D (pc' := 62) at_61 rfl  ?_
  refine Go.iconst D (pc' := 63) at_62 rfl (v := (1 : Int32)) rfl ?_
  refine Go.iadd D (pc' := 64) at_63 rfl  ?_
  obtain ⟨lf, elf⟩ : ∃ x, x = (((ushr i2 (16 : Int32)) &&& (1 : Int32)) + (1 : Int32)) := ⟨_, rfl⟩
  rw [← elf]
  have hlf := l12_and (ushr i2 16)
  rw [← elf] at hlf
  refine Go.istore D (pc' := 66) at_64 rfl (ls' := #[.val (.int i0), .val (.int i1), .val (.int i2), .val (.int i3), .val (.int i4), .val (.int i5), .val (.int ia), .val (.int ib), .val (.int la), .val (.int fa), .val (.int fb), .val (.int lf), .unset, .unset, .unset, .unset, .unset, .unset, .unset, .unset, .unset, .unset, .unset, .unset, .unset, .unset, .unset, .unset, .unset, .unset, .unset, .unset, .unset, .unset, .unset, .unset, .unset, .unset, .unset, .unset, .unset, .unset, .unset, .unset]) rfl ?_
  refine Go.iloadN D (pc' := 67) at_66 rfl rfl ?_
  refine Go.callS D (argsL := [(.int i1)]) (rest := []) (pc' := 70) (ce' := 0) (sl' := 0) (con_idc l Z a0 hw h0 n0 none i1) (hw _ (List.mem_of_getElem? (i := 0) rfl)) (hw _ (List.mem_of_getElem? (i := 1) rfl)) (hw _ (List.mem_of_getElem? (i := 2) rfl)) (hw _ (List.mem_of_getElem? (i := 3) rfl)) (by decide) at_67 rfl pd1 rfl rfl rfl (by decide) (W := 0) rfl (by decide) (by decide) (by decide) (by decide) (by decide) ?_
  intro v67 h67 σ67 q67
  obtain ⟨rfl, rfl, d1, rfl, hd1⟩ := q67
  show Go κ none h0 0 0 70 #[.val (.int i0), .val (.int i1), .val (.int i2), .val (.int i3), .val (.int i4), .val (.int i5), .val (.int ia), .val (.int ib), .val (.int la), .val (.int fa), .val (.int fb), .val (.int lf), .unset, .unset, .unset, .unset, .unset, .unset, .unset, .unset, .unset, .unset, .unset, .unset, .unset, .unset, .unset, .unset, .unset, .unset, .unset, .unset, .unset, .unset, .unset, .unset, .unset, .unset, .unset, .unset, .unset, .unset, .unset, .unset] [(.int d1)]
  refine Go.istore D (pc' := 72) at_70 rfl (ls' := #[.val (.int i0), .val (.int i1), .val (.int i2), .val (.int i3), .val (.int i4), .val (.int i5), .val (.int ia), .val (.int ib), .val (.int la), .val (.int fa), .val (.int fb), .val (.int lf), .val (.int d1), .unset, .unset, .unset, .unset, .unset, .unset, .unset, .unset, .unset, .unset, .unset, .unset, .unset, .unset, .unset, .unset, .unset, .unset, .unset, .unset, .unset, .unset, .unset, .unset, .unset, .unset, .unset, .unset, .unset, .unset, .unset]) rfl ?_
  refine Go.iloadN D (pc' := 73) at_72 rfl rfl ?_
  refine Go.callS D (argsL := [(.int i3)]) (rest := []) (pc' := 76) (ce' := 0) (sl' := 0) (con_idc l Z a0 hw h0 n0 none i3) (hw _ (List.mem_of_getElem? (i := 0) rfl)) (hw _ (List.mem_of_getElem? (i := 1) rfl)) (hw _ (List.mem_of_getElem? (i := 2) rfl)) (hw _ (List.mem_of_getElem? (i := 3) rfl)) (by decide) at_73 rfl pd1 rfl rfl rfl (by decide) (W := 0) rfl (by decide) (by decide) (by decide) (by decide) (by decide) ?_
  intro v73 h73 σ73 q73
  obtain ⟨rfl, rfl, d2, rfl, hd2⟩ := q73
  show Go κ none h0 0 0 76 #[.val (.int i0), .val (.int i1), .val (.int i2), .val (.int i3), .val (.int i4), .val (.int i5), .val (.int ia), .val (.int ib), .val (.int la), .val (.int fa), .val (.int fb), .val (.int lf), .val (.int d1), .unset, .unset, .unset, .unset, .unset, .unset, .unset, .unset, .unset, .unset, .unset, .unset, .unset, .unset, .unset, .unset, .unset, .unset, .unset, .unset, .unset, .unset, .unset, .unset, .unset, .unset, .unset, .unset, .unset, .unset, .unset] [(.int d2)]
  refine Go.istore D (pc' := 78) at_76 rfl (ls' := #[.val (.int i0), .val (.int i1), .val (.int i2), .val (.int i3), .val (.int i4), .val (.int i5), .val (.int ia), .val (.int ib), .val (.int la), .val (.int fa), .val (.int fb), .val (.int lf), .val (.int d1), .val (.int d2), .unset, .unset, .unset, .unset, .unset, .unset, .unset, .unset, .unset, .unset, .unset, .unset, .unset, .unset, .unset, .unset, .unset, .unset, .unset, .unset, .unset, .unset, .unset, .unset, .unset, .unset, .unset, .unset, .unset, .unset]) rfl ?_
  refine Go.iloadN D (pc' := 79) at_78 rfl rfl ?_
  refine Go.bipush D (pc' := 81) at_79 rfl (v := (16 : Int32)) rfl ?_
  refine Go.iushr D (pc' := 82) at_81 rfl  ?_
  refine Go.iconst D (pc' := 83) at_82 rfl (v := (1 : Int32)) rfl ?_
  refine Go.iand D (pc' := 84) at_83 rfl  ?_
  refine Go.iconst D (pc' := 85) at_84 rfl (v := (1 : Int32)) rfl ?_
  refine Go.iadd D (pc' := 86) at_85 rfl  ?_
  obtain ⟨ld, eld⟩ : ∃ x, x = (((ushr i1 (16 : Int32)) &&& (1 : Int32)) + (1 : Int32)) := ⟨_, rfl⟩
  rw [← eld]
  have hld := l12_and (ushr i1 16)
  rw [← eld] at hld
  refine Go.istore D (pc' := 88) at_86 rfl (ls' := #[.val (.int i0), .val (.int i1), .val (.int i2), .val (.int i3), .val (.int i4), .val (.int i5), .val (.int ia), .val (.int ib), .val (.int la), .val (.int fa), .val (.int fb), .val (.int lf), .val (.int d1), .val (.int d2), .val (.int ld), .unset, .unset, .unset, .unset, .unset, .unset, .unset, .unset, .unset, .unset, .unset, .unset, .unset, .unset, .unset, .unset, .unset, .unset, .unset, .unset, .unset, .unset, .unset, .unset, .unset, .unset, .unset, .unset, .unset]) rfl ?_
  refine Go.iload D (pc' := 90) at_88 rfl rfl ?_
  refine Go.bipush D (pc' := 92) at_90 rfl (v := (7 : Int32)) rfl ?_
  refine Go.iand D (pc' := 93) at_92 rfl  ?_
  obtain ⟨m1, em1⟩ : ∃ x, x = (i4 &&& (7 : Int32)) := ⟨_, rfl⟩
  rw [← em1]
  refine Go.istore D (pc' := 95) at_93 rfl (ls' := #[.val (.int i0), .val (.int i1), .val (.int i2), .val (.int i3), .val (.int i4), .val (.int i5), .val (.int ia), .val (.int ib), .val (.int la), .val (.int fa), .val (.int fb), .val (.int lf), .val (.int d1), .val (.int d2), .val (.int ld), .val (.int m1), .unset, .unset, .unset, .unset, .unset, .unset, .unset, .unset, .unset, .unset, .unset, .unset, .unset, .unset, .unset, .unset, .unset, .unset, .unset, .unset, .unset, .unset, .unset, .unset, .unset, .unset, .unset, .unset]) rfl ?_
  refine Go.iload D (pc' := 97) at_95 rfl rfl ?_
  refine Go.iconst D (pc' := 98) at_97 rfl (v := (3 : Int32)) rfl ?_
  refine Go.iushr D (pc' := 99) at_98 rfl  ?_
  refine Go.bipush D (pc' := 101) at_99 rfl (v := (7 : Int32)) rfl ?_
  refine Go.iand D (pc' := 102) at_101 rfl  ?_
  obtain ⟨m2, em2⟩ : ∃ x, x = ((ushr i4 (3 : Int32)) &&& (7 : Int32)) := ⟨_, rfl⟩
  rw [← em2]
  refine Go.istore D (pc' := 104) at_102 rfl (ls' := #[.val (.int i0), .val (.int i1), .val (.int i2), .val (.int i3), .val (.int i4), .val (.int i5), .val (.int ia), .val (.int ib), .val (.int la), .val (.int fa), .val (.int fb), .val (.int lf), .val (.int d1), .val (.int d2), .val (.int ld), .val (.int m1), .val (.int m2), .unset, .unset, .unset, .unset, .unset, .unset, .unset, .unset, .unset, .unset, .unset, .unset, .unset, .unset, .unset, .unset, .unset, .unset, .unset, .unset, .unset, .unset, .unset, .unset, .unset, .unset, .unset]) rfl ?_
  refine Go.iload D (pc' := 106) at_104 rfl rfl ?_
  refine Go.bipush D (pc' := 108) at_106 rfl (v := (6 : Int32)) rfl ?_
  refine Go.iushr D (pc' := 109) at_108 rfl  ?_
  refine Go.bipush D (pc' := 111) at_109 rfl (v := (7 : Int32)) rfl ?_
  refine Go.iand D (pc' := 112) at_111 rfl  ?_
  obtain ⟨m3, em3⟩ : ∃ x, x = ((ushr i4 (6 : Int32)) &&& (7 : Int32)) := ⟨_, rfl⟩
  rw [← em3]
  refine Go.istore D (pc' := 114) at_112 rfl (ls' := #[.val (.int i0), .val (.int i1), .val (.int i2), .val (.int i3), .val (.int i4), .val (.int i5), .val (.int ia), .val (.int ib), .val (.int la), .val (.int fa), .val (.int fb), .val (.int lf), .val (.int d1), .val (.int d2), .val (.int ld), .val (.int m1), .val (.int m2), .val (.int m3), .unset, .unset, .unset, .unset, .unset, .unset, .unset, .unset, .unset, .unset, .unset, .unset, .unset, .unset, .unset, .unset, .unset, .unset, .unset, .unset, .unset, .unset, .unset, .unset, .unset, .unset]) rfl ?_
  refine Go.iload D (pc' := 116) at_114 rfl rfl ?_
  refine Go.iconst D (pc' := 117) at_116 rfl (v := (4 : Int32)) rfl ?_
  have J132 : ∀ ja : Int32, K65 ja → Go κ none h0 0 0 132 #[.val (.int i0), .val (.int i1), .val (.int i2), .val (.int i3), .val (.int i4), .val (.int i5), .val (.int ia), .val (.int ib), .val (.int la), .val (.int fa), .val (.int fb), .val (.int lf), .val (.int d1), .val (.int d2), .val (.int ld), .val (.int m1), .val (.int m2), .val (.int m3), .unset, .unset, .unset, .unset, .unset, .unset, .unset, .unset, .unset, .unset, .unset, .unset, .unset, .unset, .unset, .unset, .unset, .unset, .unset, .unset, .unset, .unset, .unset, .unset, .unset, .unset] [(.int ja)] := by
    intro ja hja
    refine Go.istore D (pc' := 134) at_132 rfl (ls' := #[.val (.int i0), .val (.int i1), .val (.int i2), .val (.int i3), .val (.int i4), .val (.int i5), .val (.int ia), .val (.int ib), .val (.int la), .val (.int fa), .val (.int fb), .val (.int lf), .val (.int d1), .val (.int d2), .val (.int ld), .val (.int m1), .val (.int m2), .val (.int m3), .val (.int ja), .unset, .unset, .unset, .unset, .unset, .unset, .unset, .unset, .unset, .unset, .unset, .unset, .unset, .unset, .unset, .unset, .unset, .unset, .unset, .unset, .unset, .unset, .unset, .unset, .unset]) rfl ?_
    refine Go.iload D (pc' := 136) at_134 rfl rfl ?_
    refine Go.iconst D (pc' := 137) at_136 rfl (v := (5 : Int32)) rfl ?_
    have J152 : ∀ jb : Int32, K65 jb → Go κ none h0 0 0 152 #[.val (.int i0), .val (.int i1), .val (.int i2), .val (.int i3), .val (.int i4), .val (.int i5), .val (.int ia), .val (.int ib), .val (.int la), .val (.int fa), .val (.int fb), .val (.int lf), .val (.int d1), .val (.int d2), .val (.int ld), .val (.int m1), .val (.int m2), .val (.int m3), .val (.int ja), .unset, .unset, .unset, .unset, .unset, .unset, .unset, .unset, .unset, .unset, .unset, .unset, .unset, .unset, .unset, .unset, .unset, .unset, .unset, .unset, .unset, .unset, .unset, .unset, .unset] [(.int jb)] := by
      intro jb hjb
      refine Go.istore D (pc' := 154) at_152 rfl (ls' := #[.val (.int i0), .val (.int i1), .val (.int i2), .val (.int i3), .val (.int i4), .val (.int i5), .val (.int ia), .val (.int ib), .val (.int la), .val (.int fa), .val (.int fb), .val (.int lf), .val (.int d1), .val (.int d2), .val (.int ld), .val (.int m1), .val (.int m2), .val (.int m3), .val (.int ja), .val (.int jb), .unset, .unset, .unset, .unset, .unset, .unset, .unset, .unset, .unset, .unset, .unset, .unset, .unset, .unset, .unset, .unset, .unset, .unset, .unset, .unset, .unset, .unset, .unset, .unset]) rfl ?_
      refine Go.iload D (pc' := 156) at_154 rfl rfl ?_
      refine Go.bipush D (pc' := 158) at_156 rfl (v := (6 : Int32)) rfl ?_
      have J170 : ∀ lb : Int32, (lb = 1 ∨ lb = 2) → Go κ none h0 0 0 170 #[.val (.int i0), .val (.int i1), .val (.int i2), .val (.int i3), .val (.int i4), .val (.int i5), .val (.int ia), .val (.int ib), .val (.int la), .val (.int fa), .val (.int fb), .val (.int lf), .val (.int d1), .val (.int d2), .val (.int ld), .val (.int m1), .val (.int m2), .val (.int m3), .val (.int ja), .val (.int jb), .unset, .unset, .unset, .unset, .unset, .unset, .unset, .unset, .unset, .unset, .unset, .unset, .unset, .unset, .unset, .unset, .unset, .unset, .unset, .unset, .unset, .unset, .unset, .unset] [(.int lb)] := by
        intro lb hlb
        refine Go.istore D (pc' := 172) at_170 rfl (ls' := #[.val (.int i0), .val (.int i1), .val (.int i2), .val (.int i3), .val (.int i4), .val (.int i5), .val (.int ia), .val (.int ib), .val (.int la), .val (.int fa), .val (.int fb), .val (.int lf), .val (.int d1), .val (.int d2), .val (.int ld), .val (.int m1), .val (.int m2), .val (.int m3), .val (.int ja), .val (.int jb), .val (.int lb), .unset, .unset, .unset, .unset, .unset, .unset, .unset, .unset, .unset, .unset, .unset, .unset, .unset, .unset, .unset, .unset, .unset, .unset, .unset, .unset, .unset, .unset, .unset]) rfl ?_
        refine Go.iload D (pc' := 174) at_172 rfl rfl ?_
        refine Go.iconst D (pc' := 175) at_174 rfl (v := (4 : Int32)) rfl ?_
        have J190 : ∀ ga : Int32, K65 ga → Go κ none h0 0 0 190 #[.val (.int i0), .val (.int i1), .val (.int i2), .val (.int i3), .val (.int i4), .val (.int i5), .val (.int ia), .val (.int ib), .val (.int la), .val (.int fa), .val (.int fb), .val (.int lf), .val (.int d1), .val (.int d2), .val (.int ld), .val (.int m1), .val (.int m2), .val (.int m3), .val (.int ja), .val (.int jb), .val (.int lb), .unset, .unset, .unset, .unset, .unset, .unset, .unset, .unset, .unset, .unset, .unset, .unset, .unset, .unset, .unset, .unset, .unset, .unset, .unset, .unset, .unset, .unset, .unset] [(.int ga)] := by
          intro ga hga
          refine Go.istore D (pc' := 192) at_190 rfl (ls' := #[.val (.int i0), .val (.int i1), .val (.int i2), .val (.int i3), .val (.int i4), .val (.int i5), .val (.int ia), .val (.int ib), .val (.int la), .val (.int fa), .val (.int fb), .val (.int lf), .val (.int d1), .val (.int d2), .val (.int ld), .val (.int m1), .val (.int m2), .val (.int m3), .val (.int ja), .val (.int jb), .val (.int lb), .val (.int ga), .unset, .unset, .unset, .unset, .unset, .unset, .unset, .unset, .unset, .unset, .unset, .unset, .unset, .unset, .unset, .unset, .unset, .unset, .unset, .unset, .unset, .unset]) rfl ?_
          refine Go.iload D (pc' := 194) at_192 rfl rfl ?_
          refine Go.iconst D (pc' := 195) at_194 rfl (v := (5 : Int32)) rfl ?_
          have J210 : ∀ gc : Int32, K65 gc → Go κ none h0 0 0 210 #[.val (.int i0), .val (.int i1), .val (.int i2), .val (.int i3), .val (.int i4), .val (.int i5), .val (.int ia), .val (.int ib), .val (.int la), .val (.int fa), .val (.int fb), .val (.int lf), .val (.int d1), .val (.int d2), .val (.int ld), .val (.int m1), .val (.int m2), .val (.int m3), .val (.int ja), .val (.int jb), .val (.int lb), .val (.int ga), .unset, .unset, .unset, .unset, .unset, .unset, .unset, .unset, .unset, .unset, .unset, .unset, .unset, .unset, .unset, .unset, .unset, .unset, .unset, .unset, .unset, .unset] [(.int gc)] := by
            intro gc hgc
            refine Go.istore D (pc' := 212) at_210 rfl (ls' := #[.val (.int i0), .val (.int i1), .val (.int i2), .val (.int i3), .val (.int i4), .val (.int i5), .val (.int ia), .val (.int ib), .val (.int la), .val (.int fa), .val (.int fb), .val (.int lf), .val (.int d1), .val (.int d2), .val (.int ld), .val (.int m1), .val (.int m2), .val (.int m3), .val (.int ja), .val (.int jb), .val (.int lb), .val (.int ga), .val (.int gc), .unset, .unset, .unset, .unset, .unset, .unset, .unset, .unset, .unset, .unset, .unset, .unset, .unset, .unset, .unset, .unset, .unset, .unset, .unset, .unset, .unset]) rfl ?_
            refine Go.iload D (pc' := 214) at_212 rfl rfl ?_
            refine Go.bipush D (pc' := 216) at_214 rfl (v := (6 : Int32)) rfl ?_
            have J228 : ∀ lg : Int32, (lg = 1 ∨ lg = 2) → Go κ none h0 0 0 228 #[.val (.int i0), .val (.int i1), .val (.int i2), .val (.int i3), .val (.int i4), .val (.int i5), .val (.int ia), .val (.int ib), .val (.int la), .val (.int fa), .val (.int fb), .val (.int lf), .val (.int d1), .val (.int d2), .val (.int ld), .val (.int m1), .val (.int m2), .val (.int m3), .val (.int ja), .val (.int jb), .val (.int lb), .val (.int ga), .val (.int gc), .unset, .unset, .unset, .unset, .unset, .unset, .unset, .unset, .unset, .unset, .unset, .unset, .unset, .unset, .unset, .unset, .unset, .unset, .unset, .unset, .unset] [(.int lg)] := by
              intro lg hlg
              refine Go.istore D (pc' := 230) at_228 rfl (ls' := #[.val (.int i0), .val (.int i1), .val (.int i2), .val (.int i3), .val (.int i4), .val (.int i5), .val (.int ia), .val (.int ib), .val (.int la), .val (.int fa), .val (.int fb), .val (.int lf), .val (.int d1), .val (.int d2), .val (.int ld), .val (.int m1), .val (.int m2), .val (.int m3), .val (.int ja), .val (.int jb), .val (.int lb), .val (.int ga), .val (.int gc), .val (.int lg), .unset, .unset, .unset, .unset, .unset, .unset, .unset, .unset, .unset, .unset, .unset, .unset, .unset, .unset, .unset, .unset, .unset, .unset, .unset, .unset]) rfl ?_
              refine Go.iload D (pc' := 232) at_230 rfl rfl ?_
              refine Go.iconst D (pc' := 233) at_232 rfl (v := (4 : Int32)) rfl ?_
              have J248 : ∀ e1 : Int32, IdW e1 → Go κ none h0 0 0 248 #[.val (.int i0), .val (.int i1), .val (.int i2), .val (.int i3), .val (.int i4), .val (.int i5), .val (.int ia), .val (.int ib), .val (.int la), .val (.int fa), .val (.int fb), .val (.int lf), .val (.int d1), .val (.int d2), .val (.int ld), .val (.int m1), .val (.int m2), .val (.int m3), .val (.int ja), .val (.int jb), .val (.int lb), .val (.int ga), .val (.int gc), .val (.int lg), .unset, .unset, .unset, .unset, .unset, .unset, .unset, .unset, .unset, .unset, .unset, .unset, .unset, .unset, .unset, .unset, .unset, .unset, .unset, .unset] [(.int e1)] := by
                intro e1 he1
                refine Go.istore D (pc' := 250) at_248 rfl (ls' := #[.val (.int i0), .val (.int i1), .val (.int i2), .val (.int i3), .val (.int i4), .val (.int i5), .val (.int ia), .val (.int ib), .val (.int la), .val (.int fa), .val (.int fb), .val (.int lf), .val (.int d1), .val (.int d2), .val (.int ld), .val (.int m1), .val (.int m2), .val (.int m3), .val (.int ja), .val (.int jb), .val (.int lb), .val (.int ga), .val (.int gc), .val (.int lg), .val (.int e1), .unset, .unset, .unset, .unset, .unset, .unset, .unset, .unset, .unset, .unset, .unset, .unset, .unset, .unset, .unset, .unset, .unset, .unset, .unset]) rfl ?_
                refine Go.iload D (pc' := 252) at_250 rfl rfl ?_
                refine Go.iconst D (pc' := 253) at_252 rfl (v := (5 : Int32)) rfl ?_
                have J268 : ∀ e2 : Int32, IdW e2 → Go κ none h0 0 0 268 #[.val (.int i0), .val (.int i1), .val (.int i2), .val (.int i3), .val (.int i4), .val (.int i5), .val (.int ia), .val (.int ib), .val (.int la), .val (.int fa), .val (.int fb), .val (.int lf), .val (.int d1), .val (.int d2), .val (.int ld), .val (.int m1), .val (.int m2), .val (.int m3), .val (.int ja), .val (.int jb), .val (.int lb), .val (.int ga), .val (.int gc), .val (.int lg), .val (.int e1), .unset, .unset, .unset, .unset, .unset, .unset, .unset, .unset, .unset, .unset, .unset, .unset, .unset, .unset, .unset, .unset, .unset, .unset, .unset] [(.int e2)] := by
                  intro e2 he2
                  refine Go.istore D (pc' := 270) at_268 rfl (ls' := #[.val (.int i0), .val (.int i1), .val (.int i2), .val (.int i3), .val (.int i4), .val (.int i5), .val (.int ia), .val (.int ib), .val (.int la), .val (.int fa), .val (.int fb), .val (.int lf), .val (.int d1), .val (.int d2), .val (.int ld), .val (.int m1), .val (.int m2), .val (.int m3), .val (.int ja), .val (.int jb), .val (.int lb), .val (.int ga), .val (.int gc), .val (.int lg), .val (.int e1), .val (.int e2), .unset, .unset, .unset, .unset, .unset, .unset, .unset, .unset, .unset, .unset, .unset, .unset, .unset, .unset, .unset, .unset, .unset, .unset]) rfl ?_
                  refine Go.iload D (pc' := 272) at_270 rfl rfl ?_
                  refine Go.bipush D (pc' := 274) at_272 rfl (v := (6 : Int32)) rfl ?_
                  have J286 : ∀ le : Int32, (le = 1 ∨ le = 2) → Go κ none h0 0 0 286 #[.val (.int i0), .val (.int i1), .val (.int i2), .val (.int i3), .val (.int i4), .val (.int i5), .val (.int ia), .val (.int ib), .val (.int la), .val (.int fa), .val (.int fb), .val (.int lf), .val (.int d1), .val (.int d2), .val (.int ld), .val (.int m1), .val (.int m2), .val (.int m3), .val (.int ja), .val (.int jb), .val (.int lb), .val (.int ga), .val (.int gc), .val (.int lg), .val (.int e1), .val (.int e2), .unset, .unset, .unset, .unset, .unset, .unset, .unset, .unset, .unset, .unset, .unset, .unset, .unset, .unset, .unset, .unset, .unset, .unset] [(.int le)] := by
                    intro le hle
                    refine Go.istore D (pc' := 288) at_286 rfl (ls' := #[.val (.int i0), .val (.int i1), .val (.int i2), .val (.int i3), .val (.int i4), .val (.int i5), .val (.int ia), .val (.int ib), .val (.int la), .val (.int fa), .val (.int fb), .val (.int lf), .val (.int d1), .val (.int d2), .val (.int ld), .val (.int m1), .val (.int m2), .val (.int m3), .val (.int ja), .val (.int jb), .val (.int lb), .val (.int ga), .val (.int gc), .val (.int lg), .val (.int e1), .val (.int e2), .val (.int le), .unset, .unset, .unset, .unset, .unset, .unset, .unset, .unset, .unset, .unset, .unset, .unset, .unset, .unset, .unset, .unset, .unset]) rfl ?_
                    refine Go.iload D (pc' := 290) at_288 rfl rfl ?_
                    refine Go.callS D (argsL := [(.int ia)]) (rest := []) (pc' := 293) (ce' := 0) (sl' := 0) (con_tok l Z a0 hw h0 n0 none ia hia) (hw _ (List.mem_of_getElem? (i := 5) rfl)) (hw _ (List.mem_of_getElem? (i := 6) rfl)) (hw _ (List.mem_of_getElem? (i := 2) rfl)) (hw _ (List.mem_of_getElem? (i := 7) rfl)) (by decide) at_290 rfl pd2 rfl rfl rfl (by decide) (W := 0) rfl (by decide) (by decide) (by decide) (by decide) (by decide) ?_
                    intro v290 h290 σ290 q290
                    obtain ⟨rfl, rfl, tA1, rfl, htA1⟩ := q290
                    show Go κ none h0 0 0 293 #[.val (.int i0), .val (.int i1), .val (.int i2), .val (.int i3), .val (.int i4), .val (.int i5), .val (.int ia), .val (.int ib), .val (.int la), .val (.int fa), .val (.int fb), .val (.int lf), .val (.int d1), .val (.int d2), .val (.int ld), .val (.int m1), .val (.int m2), .val (.int m3), .val (.int ja), .val (.int jb), .val (.int lb), .val (.int ga), .val (.int gc), .val (.int lg), .val (.int e1), .val (.int e2), .val (.int le), .unset, .unset, .unset, .unset, .unset, .unset, .unset, .unset, .unset, .unset, .unset, .unset, .unset, .unset, .unset, .unset, .unset] [(.int tA1)]
                    refine Go.istore D (pc' := 295) at_293 rfl (ls' := #[.val (.int i0), .val (.int i1), .val (.int i2), .val (.int i3), .val (.int i4), .val (.int i5), .val (.int ia), .val (.int ib), .val (.int la), .val (.int fa), .val (.int fb), .val (.int lf), .val (.int d1), .val (.int d2), .val (.int ld), .val (.int m1), .val (.int m2), .val (.int m3), .val (.int ja), .val (.int jb), .val (.int lb), .val (.int ga), .val (.int gc), .val (.int lg), .val (.int e1), .val (.int e2), .val (.int le), .val (.int tA1), .unset, .unset, .unset, .unset, .unset, .unset, .unset, .unset, .unset, .unset, .unset, .unset, .unset, .unset, .unset, .unset]) rfl ?_
                    refine Go.iload D (pc' := 297) at_295 rfl rfl ?_
                    refine Go.callS D (argsL := [(.int ib)]) (rest := []) (pc' := 300) (ce' := 0) (sl' := 0) (con_tok l Z a0 hw h0 n0 none ib hib) (hw _ (List.mem_of_getElem? (i := 5) rfl)) (hw _ (List.mem_of_getElem? (i := 6) rfl)) (hw _ (List.mem_of_getElem? (i := 2) rfl)) (hw _ (List.mem_of_getElem? (i := 7) rfl)) (by decide) at_297 rfl pd2 rfl rfl rfl (by decide) (W := 0) rfl (by decide) (by decide) (by decide) (by decide) (by decide) ?_
                    intro v297 h297 σ297 q297
                    obtain ⟨rfl, rfl, tA2, rfl, htA2⟩ := q297
                    show Go κ none h0 0 0 300 #[.val (.int i0), .val (.int i1), .val (.int i2), .val (.int i3), .val (.int i4), .val (.int i5), .val (.int ia), .val (.int ib), .val (.int la), .val (.int fa), .val (.int fb), .val (.int lf), .val (.int d1), .val (.int d2), .val (.int ld), .val (.int m1), .val (.int m2), .val (.int m3), .val (.int ja), .val (.int jb), .val (.int lb), .val (.int ga), .val (.int gc), .val (.int lg), .val (.int e1), .val (.int e2), .val (.int le), .val (.int tA1), .unset, .unset, .unset, .unset, .unset, .unset, .unset, .unset, .unset, .unset, .unset, .unset, .unset, .unset, .unset, .unset] [(.int tA2)]
                    refine Go.istore D (pc' := 302) at_300 rfl (ls' := #[.val (.int i0), .val (.int i1), .val (.int i2), .val (.int i3), .val (.int i4), .val (.int i5), .val (.int ia), .val (.int ib), .val (.int la), .val (.int fa), .val (.int fb), .val (.int lf), .val (.int d1), .val (.int d2), .val (.int ld), .val (.int m1), .val (.int m2), .val (.int m3), .val (.int ja), .val (.int jb), .val (.int lb), .val (.int ga), .val (.int gc), .val (.int lg), .val (.int e1), .val (.int e2), .val (.int le), .val (.int tA1), .val (.int tA2), .unset, .unset, .unset, .unset, .unset, .unset, .unset, .unset, .unset, .unset, .unset, .unset, .unset, .unset, .unset]) rfl ?_
                    refine Go.iload D (pc' := 304) at_302 rfl rfl ?_
                    refine Go.callS D (argsL := [(.int ja)]) (rest := []) (pc' := 307) (ce' := 0) (sl' := 0) (con_tok l Z a0 hw h0 n0 none ja hja) (hw _ (List.mem_of_getElem? (i := 5) rfl)) (hw _ (List.mem_of_getElem? (i := 6) rfl)) (hw _ (List.mem_of_getElem? (i := 2) rfl)) (hw _ (List.mem_of_getElem? (i := 7) rfl)) (by decide) at_304 rfl pd2 rfl rfl rfl (by decide) (W := 0) rfl (by decide) (by decide) (by decide) (by decide) (by decide) ?_
                    intro v304 h304 σ304 q304
                    obtain ⟨rfl, rfl, tB1, rfl, htB1⟩ := q304
                    show Go κ none h0 0 0 307 #[.val (.int i0), .val (.int i1), .val (.int i2), .val (.int i3), .val (.int i4), .val (.int i5), .val (.int ia), .val (.int ib), .val (.int la), .val (.int fa), .val (.int fb), .val (.int lf), .val (.int d1), .val (.int d2), .val (.int ld), .val (.int m1), .val (.int m2), .val (.int m3), .val (.int ja), .val (.int jb), .val (.int lb), .val (.int ga), .val (.int gc), .val (.int lg), .val (.int e1), .val (.int e2), .val (.int le), .val (.int tA1), .val (.int tA2), .unset, .unset, .unset, .unset, .unset, .unset, .unset, .unset, .unset, .unset, .unset, .unset, .unset, .unset, .unset] [(.int tB1)]
                    refine Go.istore D (pc' := 309) at_307 rfl (ls' := #[.val (.int i0), .val (.int i1), .val (.int i2), .val (.int i3), .val (.int i4), .val (.int i5), .val (.int ia), .val (.int ib), .val (.int la), .val (.int fa), .val (.int fb), .val (.int lf), .val (.int d1), .val (.int d2), .val (.int ld), .val (.int m1), .val (.int m2), .val (.int m3), .val (.int ja), .val (.int jb), .val (.int lb), .val (.int ga), .val (.int gc), .val (.int lg), .val (.int e1), .val (.int e2), .val (.int le), .val (.int tA1), .val (.int tA2), .val (.int tB1), .unset, .unset, .unset, .unset, .unset, .unset, .unset, .unset, .unset, .unset, .unset, .unset, .unset, .unset]) rfl ?_
                    refine Go.iload D (pc' := 311) at_309 rfl rfl ?_
                    refine Go.callS D (argsL := [(.int jb)]) (rest := []) (pc' := 314) (ce' := 0) (sl' := 0) (con_tok l Z a0 hw h0 n0 none jb hjb) (hw _ (List.mem_of_getElem? (i := 5) rfl)) (hw _ (List.mem_of_getElem? (i := 6) rfl)) (hw _ (List.mem_of_getElem? (i := 2) rfl)) (hw _ (List.mem_of_getElem? (i := 7) rfl)) (by decide) at_311 rfl pd2 rfl rfl rfl (by decide) (W := 0) rfl (by decide) (by decide) (by decide) (by decide) (by decide) ?_
                    intro v311 h311 σ311 q311
                    obtain ⟨rfl, rfl, tB2, rfl, htB2⟩ := q311
                    show Go κ none h0 0 0 314 #[.val (.int i0), .val (.int i1), .val (.int i2), .val (.int i3), .val (.int i4), .val (.int i5), .val (.int ia), .val (.int ib), .val (.int la), .val (.int fa), .val (.int fb), .val (.int lf), .val (.int d1), .val (.int d2), .val (.int ld), .val (.int m1), .val (.int m2), .val (.int m3), .val (.int ja), .val (.int jb), .val (.int lb), .val (.int ga), .val (.int gc), .val (.int lg), .val (.int e1), .val (.int e2), .val (.int le), .val (.int tA1), .val (.int tA2), .val (.int tB1), .unset, .unset, .unset, .unset, .unset, .unset, .unset, .unset, .unset, .unset, .unset, .unset, .unset, .unset] [(.int tB2)]
                    refine Go.istore D (pc' := 316) at_314 rfl (ls' := #[.val (.int i0), .val (.int i1), .val (.int i2), .val (.int i3), .val (.int i4), .val (.int i5), .val (.int ia), .val (.int ib), .val (.int la), .val (.int fa), .val (.int fb), .val (.int lf), .val (.int d1), .val (.int d2), .val (.int ld), .val (.int m1), .val (.int m2), .val (.int m3), .val (.int ja), .val (.int jb), .val (.int lb), .val (.int ga), .val (.int gc), .val (.int lg), .val (.int e1), .val (.int e2), .val (.int le), .val (.int tA1), .val (.int tA2), .val (.int tB1), .val (.int tB2), .unset, .unset, .unset, .unset, .unset, .unset, .unset, .unset, .unset, .unset, .unset, .unset, .unset]) rfl ?_
                    refine Go.iload D (pc' := 318) at_316 rfl rfl ?_
                    refine Go.callS D (argsL := [(.int fa)]) (rest := []) (pc' := 321) (ce' := 0) (sl' := 0) (con_tok l Z a0 hw h0 n0 none fa hfa) (hw _ (List.mem_of_getElem? (i := 5) rfl)) (hw _ (List.mem_of_getElem? (i := 6) rfl)) (hw _ (List.mem_of_getElem? (i := 2) rfl)) (hw _ (List.mem_of_getElem? (i := 7) rfl)) (by decide) at_318 rfl pd2 rfl rfl rfl (by decide) (W := 0) rfl (by decide) (by decide) (by decide) (by decide) (by decide) ?_
                    intro v318 h318 σ318 q318
                    obtain ⟨rfl, rfl, tC1, rfl, htC1⟩ := q318
                    show Go κ none h0 0 0 321 #[.val (.int i0), .val (.int i1), .val (.int i2), .val (.int i3), .val (.int i4), .val (.int i5), .val (.int ia), .val (.int ib), .val (.int la), .val (.int fa), .val (.int fb), .val (.int lf), .val (.int d1), .val (.int d2), .val (.int ld), .val (.int m1), .val (.int m2), .val (.int m3), .val (.int ja), .val (.int jb), .val (.int lb), .val (.int ga), .val (.int gc), .val (.int lg), .val (.int e1), .val (.int e2), .val (.int le), .val (.int tA1), .val (.int tA2), .val (.int tB1), .val (.int tB2), .unset, .unset, .unset, .unset, .unset, .unset, .unset, .unset, .unset, .unset, .unset, .unset, .unset] [(.int tC1)]
                    refine Go.istore D (pc' := 323) at_321 rfl (ls' := #[.val (.int i0), .val (.int i1), .val (.int i2), .val (.int i3), .val (.int i4), .val (.int i5), .val (.int ia), .val (.int ib), .val (.int la), .val (.int fa), .val (.int fb), .val (.int lf), .val (.int d1), .val (.int d2), .val (.int ld), .val (.int m1), .val (.int m2), .val (.int m3), .val (.int ja), .val (.int jb), .val (.int lb), .val (.int ga), .val (.int gc), .val (.int lg), .val (.int e1), .val (.int e2), .val (.int le), .val (.int tA1), .val (.int tA2), .val (.int tB1), .val (.int tB2), .val (.int tC1), .unset, .unset, .unset, .unset, .unset, .unset, .unset, .unset, .unset, .unset, .unset, .unset]) rfl ?_
                    refine Go.iload D (pc' := 325) at_323 rfl rfl ?_
                    refine Go.callS D (argsL := [(.int fb)]) (rest := []) (pc' := 328) (ce' := 0) (sl' := 0) (con_tok l Z a0 hw h0 n0 none fb hfb) (hw _ (List.mem_of_getElem? (i := 5) rfl)) (hw _ (List.mem_of_getElem? (i := 6) rfl)) (hw _ (List.mem_of_getElem? (i := 2) rfl)) (hw _ (List.mem_of_getElem? (i := 7) rfl)) (by decide) at_325 rfl pd2 rfl rfl rfl (by decide) (W := 0) rfl (by decide) (by decide) (by decide) (by decide) (by decide) ?_
                    intro v325 h325 σ325 q325
                    obtain ⟨rfl, rfl, tC2, rfl, htC2⟩ := q325
                    show Go κ none h0 0 0 328 #[.val (.int i0), .val (.int i1), .val (.int i2), .val (.int i3), .val (.int i4), .val (.int i5), .val (.int ia), .val (.int ib), .val (.int la), .val (.int fa), .val (.int fb), .val (.int lf), .val (.int d1), .val (.int d2), .val (.int ld), .val (.int m1), .val (.int m2), .val (.int m3), .val (.int ja), .val (.int jb), .val (.int lb), .val (.int ga), .val (.int gc), .val (.int lg), .val (.int e1), .val (.int e2), .val (.int le), .val (.int tA1), .val (.int tA2), .val (.int tB1), .val (.int tB2), .val (.int tC1), .unset, .unset, .unset, .unset, .unset, .unset, .unset, .unset, .unset, .unset, .unset, .unset] [(.int tC2)]
                    refine Go.istore D (pc' := 330) at_328 rfl (ls' := #[.val (.int i0), .val (.int i1), .val (.int i2), .val (.int i3), .val (.int i4), .val (.int i5), .val (.int ia), .val (.int ib), .val (.int la), .val (.int fa), .val (.int fb), .val (.int lf), .val (.int d1), .val (.int d2), .val (.int ld), .val (.int m1), .val (.int m2), .val (.int m3), .val (.int ja), .val (.int jb), .val (.int lb), .val (.int ga), .val (.int gc), .val (.int lg), .val (.int e1), .val (.int e2), .val (.int le), .val (.int tA1), .val (.int tA2), .val (.int tB1), .val (.int tB2), .val (.int tC1), .val (.int tC2), .unset, .unset, .unset, .unset, .unset, .unset, .unset, .unset, .unset, .unset, .unset]) rfl ?_
                    refine Go.iload D (pc' := 332) at_330 rfl rfl ?_
                    refine Go.callS D (argsL := [(.int ga)]) (rest := []) (pc' := 335) (ce' := 0) (sl' := 0) (con_tok l Z a0 hw h0 n0 none ga hga) (hw _ (List.mem_of_getElem? (i := 5) rfl)) (hw _ (List.mem_of_getElem? (i := 6) rfl)) (hw _ (List.mem_of_getElem? (i := 2) rfl)) (hw _ (List.mem_of_getElem? (i := 7) rfl)) (by decide) at_332 rfl pd2 rfl rfl rfl (by decide) (W := 0) rfl (by decide) (by decide) (by decide) (by decide) (by decide) ?_
                    intro v332 h332 σ332 q332
                    obtain ⟨rfl, rfl, tD1, rfl, htD1⟩ := q332
                    show Go κ none h0 0 0 335 #[.val (.int i0), .val (.int i1), .val (.int i2), .val (.int i3), .val (.int i4), .val (.int i5), .val (.int ia), .val (.int ib), .val (.int la), .val (.int fa), .val (.int fb), .val (.int lf), .val (.int d1), .val (.int d2), .val (.int ld), .val (.int m1), .val (.int m2), .val (.int m3), .val (.int ja), .val (.int jb), .val (.int lb), .val (.int ga), .val (.int gc), .val (.int lg), .val (.int e1), .val (.int e2), .val (.int le), .val (.int tA1), .val (.int tA2), .val (.int tB1), .val (.int tB2), .val (.int tC1), .val (.int tC2), .unset, .unset, .unset, .unset, .unset, .unset, .unset, .unset, .unset, .unset, .unset] [(.int tD1)]
                    refine Go.istore D (pc' := 337) at_335 rfl (ls' := #[.val (.int i0), .val (.int i1), .val (.int i2), .val (.int i3), .val (.int i4), .val (.int i5), .val (.int ia), .val (.int ib), .val (.int la), .val (.int fa), .val (.int fb), .val (.int lf), .val (.int d1), .val (.int d2), .val (.int ld), .val (.int m1), .val (.int m2), .val (.int m3), .val (.int ja), .val (.int jb), .val (.int lb), .val (.int ga), .val (.int gc), .val (.int lg), .val (.int e1), .val (.int e2), .val (.int le), .val (.int tA1), .val (.int tA2), .val (.int tB1), .val (.int tB2), .val (.int tC1), .val (.int tC2), .val (.int tD1), .unset, .unset, .unset, .unset, .unset, .unset, .unset, .unset, .unset, .unset]) rfl ?_
                    refine Go.iload D (pc' := 339) at_337 rfl rfl ?_
                    refine Go.callS D (argsL := [(.int gc)]) (rest := []) (pc' := 342) (ce' := 0) (sl' := 0) (con_tok l Z a0 hw h0 n0 none gc hgc) (hw _ (List.mem_of_getElem? (i := 5) rfl)) (hw _ (List.mem_of_getElem? (i := 6) rfl)) (hw _ (List.mem_of_getElem? (i := 2) rfl)) (hw _ (List.mem_of_getElem? (i := 7) rfl)) (by decide) at_339 rfl pd2 rfl rfl rfl (by decide) (W := 0) rfl (by decide) (by decide) (by decide) (by decide) (by decide) ?_
                    intro v339 h339 σ339 q339
                    obtain ⟨rfl, rfl, tD2, rfl, htD2⟩ := q339
                    show Go κ none h0 0 0 342 #[.val (.int i0), .val (.int i1), .val (.int i2), .val (.int i3), .val (.int i4), .val (.int i5), .val (.int ia), .val (.int ib), .val (.int la), .val (.int fa), .val (.int fb), .val (.int lf), .val (.int d1), .val (.int d2), .val (.int ld), .val (.int m1), .val (.int m2), .val (.int m3), .val (.int ja), .val (.int jb), .val (.int lb), .val (.int ga), .val (.int gc), .val (.int lg), .val (.int e1), .val (.int e2), .val (.int le), .val (.int tA1), .val (.int tA2), .val (.int tB1), .val (.int tB2), .val (.int tC1), .val (.int tC2), .val (.int tD1), .unset, .unset, .unset, .unset, .unset, .unset, .unset, .unset, .unset, .unset] [(.int tD2)]
                    refine Go.istore D (pc' := 344) at_342 rfl (ls' := #[.val (.int i0), .val (.int i1), .val (.int i2), .val (.int i3), .val (.int i4), .val (.int i5), .val (.int ia), .val (.int ib), .val (.int la), .val (.int fa), .val (.int fb), .val (.int lf), .val (.int d1), .val (.int d2), .val (.int ld), .val (.int m1), .val (.int m2), .val (.int m3), .val (.int ja), .val (.int jb), .val (.int lb), .val (.int ga), .val (.int gc), .val (.int lg), .val (.int e1), .val (.int e2), .val (.int le), .val (.int tA1), .val (.int tA2), .val (.int tB1), .val (.int tB2), .val (.int tC1), .val (.int tC2), .val (.int tD1), .val (.int tD2), .unset, .unset, .unset, .unset, .unset, .unset, .unset, .unset, .unset]) rfl ?_
                    refine Go.iload D (pc' := 346) at_344 rfl rfl ?_
                    refine Go.iload D (pc' := 348) at_346 rfl rfl ?_
                    refine Go.iload D (pc' := 350) at_348 rfl rfl ?_
                    refine Go.callS D (argsL := [(.int tA1), (.int tA2), (.int la)]) (rest := []) (pc' := 353) (ce' := 4) (sl' := 70) (con_mk l Z a0 hw h0 n0 Z0 none tA1 tA2 la htA1.c16 htA2.c16 cz hcz O2 AD HI LO) (hw _ (List.mem_of_getElem? (i := 8) rfl)) (hw _ (List.mem_of_getElem? (i := 9) rfl)) (hw _ (List.mem_of_getElem? (i := 2) rfl)) (hw _ (List.mem_of_getElem? (i := 10) rfl)) (by decide) at_350 rfl pd3 rfl rfl rfl (by decide) (W := 0) rfl (by decide) (by decide) (by decide) (by decide) (by decide) ?_
                    intro v350 h350 σ350 q350
                    obtain ⟨rfl, s1, rfl, gs1, x350, Ss1⟩ := q350
                    show Go κ none h350 4 70 353 #[.val (.int i0), .val (.int i1), .val (.int i2), .val (.int i3), .val (.int i4), .val (.int i5), .val (.int ia), .val (.int ib), .val (.int la), .val (.int fa), .val (.int fb), .val (.int lf), .val (.int d1), .val (.int d2), .val (.int ld), .val (.int m1), .val (.int m2), .val (.int m3), .val (.int ja), .val (.int jb), .val (.int lb), .val (.int ga), .val (.int gc), .val (.int lg), .val (.int e1), .val (.int e2), .val (.int le), .val (.int tA1), .val (.int tA2), .val (.int tB1), .val (.int tB2), .val (.int tC1), .val (.int tC2), .val (.int tD1), .val (.int tD2), .unset, .unset, .unset, .unset, .unset, .unset, .unset, .unset, .unset] [(.ref s1)]
                    have z350 : n0 ≤ h350.size := Nat.le_trans Z0 x350.1
                    refine Go.astore D (pc' := 355) at_353 rfl rfl (ls' := #[.val (.int i0), .val (.int i1), .val (.int i2), .val (.int i3), .val (.int i4), .val (.int i5), .val (.int ia), .val (.int ib), .val (.int la), .val (.int fa), .val (.int fb), .val (.int lf), .val (.int d1), .val (.int d2), .val (.int ld), .val (.int m1), .val (.int m2), .val (.int m3), .val (.int ja), .val (.int jb), .val (.int lb), .val (.int ga), .val (.int gc), .val (.int lg), .val (.int e1), .val (.int e2), .val (.int le), .val (.int tA1), .val (.int tA2), .val (.int tB1), .val (.int tB2), .val (.int tC1), .val (.int tC2), .val (.int tD1), .val (.int tD2), .val (.ref s1), .unset, .unset, .unset, .unset, .unset, .unset, .unset, .unset]) rfl ?_
                    refine Go.newO D (pc' := 358) (ce' := 5) (sl' := 73) (hw _ (List.mem_of_getElem? (i := 41) rfl)) (hw _ (List.mem_of_getElem? (i := 42) rfl)) (hw _ (List.mem_of_getElem? (i := 43) rfl)) at_355 rfl rfl rfl (by decide) (by decide) ?_
                    intro h355 t gt E355 X355 Y355
                    have Pt : TB Z h355 t .null .null .null := ⟨X355, Y355 (Or.inr (hw _ (List.mem_of_getElem? (i := 161) rfl))) (ty := .object "java/lang/String") (by decide), Y355 (Or.inr (hw _ (List.mem_of_getElem? (i := 163) rfl))) (ty := .object "java/lang/String") (by decide), Y355 (Or.inr (hw _ (List.mem_of_getElem? (i := 165) rfl))) (ty := .object "java/lang/String") (by decide)⟩
                    have Ss1 := Ss1.ext E355
                    have gt0 : n0 ≤ t := by have := z350; omega
                    have z355 : n0 ≤ h355.size := Nat.le_trans z350 E355.1
                    refine Go.dup D (pc' := 359) at_358 rfl rfl ?_
                    refine Go.aload D (pc' := 361) at_359 rfl rfl rfl ?_
                    refine Go.iload D (pc' := 363) at_361 rfl rfl ?_
                    refine Go.iload D (pc' := 365) at_363 rfl rfl ?_
                    refine Go.iload D (pc' := 367) at_365 rfl rfl ?_
                    refine Go.callS D (argsL := [(.int d1), (.int d2), (.int ld)]) (rest := [(.ref s1), (.ref t), (.ref t)]) (pc' := 370) (ce' := 9) (sl' := 143) (con_mk l Z a0 hw h355 n0 z355 none d1 d2 ld hd1.c16 hd2.c16 cz hcz O2 AD HI LO) (hw _ (List.mem_of_getElem? (i := 8) rfl)) (hw _ (List.mem_of_getElem? (i := 9) rfl)) (hw _ (List.mem_of_getElem? (i := 2) rfl)) (hw _ (List.mem_of_getElem? (i := 10) rfl)) (by decide) at_367 rfl pd3 rfl rfl rfl (by decide) (W := 3) rfl (by decide) (by decide) (by decide) (by decide) (by decide) ?_
                    intro v367 h367 σ367 q367
                    obtain ⟨rfl, s2, rfl, gs2, x367, Ss2⟩ := q367
                    show Go κ none h367 9 143 370 #[.val (.int i0), .val (.int i1), .val (.int i2), .val (.int i3), .val (.int i4), .val (.int i5), .val (.int ia), .val (.int ib), .val (.int la), .val (.int fa), .val (.int fb), .val (.int lf), .val (.int d1), .val (.int d2), .val (.int ld), .val (.int m1), .val (.int m2), .val (.int m3), .val (.int ja), .val (.int jb), .val (.int lb), .val (.int ga), .val (.int gc), .val (.int lg), .val (.int e1), .val (.int e2), .val (.int le), .val (.int tA1), .val (.int tA2), .val (.int tB1), .val (.int tB2), .val (.int tC1), .val (.int tC2), .val (.int tD1), .val (.int tD2), .val (.ref s1), .unset, .unset, .unset, .unset, .unset, .unset, .unset, .unset] [(.ref s2), (.ref s1), (.ref t), (.ref t)]
                    have Ss1 := Ss1.ext x367
                    have Pt := Pt.ext x367
                    have z367 : n0 ≤ h367.size := Nat.le_trans z355 x367.1
                    refine Go.iload D (pc' := 372) at_370 rfl rfl ?_
                    refine Go.iload D (pc' := 374) at_372 rfl rfl ?_
                    refine Go.iload D (pc' := 376) at_374 rfl rfl ?_
                    refine Go.callS D (argsL := [(.int tC1), (.int tC2), (.int lf)]) (rest := [(.ref s2), (.ref s1), (.ref t), (.ref t)]) (pc' := 379) (ce' := 13) (sl' := 213) (con_mk l Z a0 hw h367 n0 z367 none tC1 tC2 lf htC1.c16 htC2.c16 cz hcz O2 AD HI LO) (hw _ (List.mem_of_getElem? (i := 8) rfl)) (hw _ (List.mem_of_getElem? (i := 9) rfl)) (hw _ (List.mem_of_getElem? (i := 2) rfl)) (hw _ (List.mem_of_getElem? (i := 10) rfl)) (by decide) at_376 rfl pd3 rfl rfl rfl (by decide) (W := 4) rfl (by decide) (by decide) (by decide) (by decide) (by decide) ?_
                    intro v376 h376 σ376 q376
                    obtain ⟨rfl, s3, rfl, gs3, x376, Ss3⟩ := q376
                    show Go κ none h376 13 213 379 #[.val (.int i0), .val (.int i1), .val (.int i2), .val (.int i3), .val (.int i4), .val (.int i5), .val (.int ia), .val (.int ib), .val (.int la), .val (.int fa), .val (.int fb), .val (.int lf), .val (.int d1), .val (.int d2), .val (.int ld), .val (.int m1), .val (.int m2), .val (.int m3), .val (.int ja), .val (.int jb), .val (.int lb), .val (.int ga), .val (.int gc), .val (.int lg), .val (.int e1), .val (.int e2), .val (.int le), .val (.int tA1), .val (.int tA2), .val (.int tB1), .val (.int tB2), .val (.int tC1), .val (.int tC2), .val (.int tD1), .val (.int tD2), .val (.ref s1), .unset, .unset, .unset, .unset, .unset, .unset, .unset, .unset] [(.ref s3), (.ref s2), (.ref s1), (.ref t), (.ref t)]
                    have Ss1 := Ss1.ext x376
                    have Pt := Pt.ext x376
                    have Ss2 := Ss2.ext x376
                    have z376 : n0 ≤ h376.size := Nat.le_trans z367 x376.1
                    have ns1t : s1 ≠ t := Exa.ne Ss1.exa Pt.1 (by decide)
                    have ns2t : s2 ≠ t := Exa.ne Ss2.exa Pt.1 (by decide)
                    have ns3t : s3 ≠ t := Exa.ne Ss3.exa Pt.1 (by decide)
                    refine Go.callI D (argsL := [(.ref s1), (.ref s2), (.ref s3)]) (rest := [(.ref t)]) (pc' := 382) (ce' := 21) (sl' := 277) (con_ctorG l Z a0 hw h376 n0 z376 t s1 s2 s3 _ _ _ gt0 Pt (Ss1.str (ch1_all htA1 htA2)) Ss2 (Ss3.str (ch1_all htC1 htC2)) (ch1_ne _ _ _) (ch1_ne _ _ _) (ch1_ne _ _ _) (ch1_len2 _ _ _) (ch1_all htA1 htA2) (ch1_all hd1 hd2) (ch1_all htC1 htC2) cz hcz O2 fm rf O4 u8 U1 U2 AD HI LO) rfl (hw _ (List.mem_of_getElem? (i := 44) rfl)) (hw _ (List.mem_of_getElem? (i := 45) rfl)) (hw _ (List.mem_of_getElem? (i := 43) rfl)) (hw _ (List.mem_of_getElem? (i := 46) rfl)) (by decide) at_379 rfl pd10 rfl rfl rfl (by decide) (W := 1) rfl (by decide) (by decide) (by decide) (by decide) (by decide) ?_
                    intro v379 h379 σ379 q379
                    obtain ⟨rfl, rfl, kt379, Qt⟩ := q379
                    show Go κ none h379 21 277 382 #[.val (.int i0), .val (.int i1), .val (.int i2), .val (.int i3), .val (.int i4), .val (.int i5), .val (.int ia), .val (.int ib), .val (.int la), .val (.int fa), .val (.int fb), .val (.int lf), .val (.int d1), .val (.int d2), .val (.int ld), .val (.int m1), .val (.int m2), .val (.int m3), .val (.int ja), .val (.int jb), .val (.int lb), .val (.int ga), .val (.int gc), .val (.int lg), .val (.int e1), .val (.int e2), .val (.int le), .val (.int tA1), .val (.int tA2), .val (.int tB1), .val (.int tB2), .val (.int tC1), .val (.int tC2), .val (.int tD1), .val (.int tD2), .val (.ref s1), .unset, .unset, .unset, .unset, .unset, .unset, .unset, .unset] [(.ref t)]
                    have Ss1 := Ss1.keep kt379 ns1t Pt.1 (hw _ (List.mem_of_getElem? (i := 42) rfl))
                    have Ss2 := Ss2.keep kt379 ns2t Pt.1 (hw _ (List.mem_of_getElem? (i := 42) rfl))
                    have Ss3 := Ss3.keep kt379 ns3t Pt.1 (hw _ (List.mem_of_getElem? (i := 42) rfl))
                    have z379 : n0 ≤ h379.size := Nat.le_trans z376 kt379.1
                    refine Go.astore D (pc' := 384) at_382 rfl rfl (ls' := #[.val (.int i0), .val (.int i1), .val (.int i2), .val (.int i3), .val (.int i4), .val (.int i5), .val (.int ia), .val (.int ib), .val (.int la), .val (.int fa), .val (.int fb), .val (.int lf), .val (.int d1), .val (.int d2), .val (.int ld), .val (.int m1), .val (.int m2), .val (.int m3), .val (.int ja), .val (.int jb), .val (.int lb), .val (.int ga), .val (.int gc), .val (.int lg), .val (.int e1), .val (.int e2), .val (.int le), .val (.int tA1), .val (.int tA2), .val (.int tB1), .val (.int tB2), .val (.int tC1), .val (.int tC2), .val (.int tD1), .val (.int tD2), .val (.ref s1), .val (.ref t), .unset, .unset, .unset, .unset, .unset, .unset, .unset]) rfl ?_
                    refine Go.newO D (pc' := 387) (ce' := 22) (sl' := 280) (hw _ (List.mem_of_getElem? (i := 41) rfl)) (hw _ (List.mem_of_getElem? (i := 42) rfl)) (hw _ (List.mem_of_getElem? (i := 43) rfl)) at_384 rfl rfl rfl (by decide) (by decide) ?_
                    intro h384 o go E384 X384 Y384
                    have Po : TB Z h384 o .null .null .null := ⟨X384, Y384 (Or.inr (hw _ (List.mem_of_getElem? (i := 161) rfl))) (ty := .object "java/lang/String") (by decide), Y384 (Or.inr (hw _ (List.mem_of_getElem? (i := 163) rfl))) (ty := .object "java/lang/String") (by decide), Y384 (Or.inr (hw _ (List.mem_of_getElem? (i := 165) rfl))) (ty := .object "java/lang/String") (by decide)⟩
                    have Ss1 := Ss1.ext E384
                    have Ss2 := Ss2.ext E384
                    have Ss3 := Ss3.ext E384
                    have Qt := Qt.ext E384
                    have go0 : n0 ≤ o := by have := z379; omega
                    have z384 : n0 ≤ h384.size := Nat.le_trans z379 E384.1
                    refine Go.dup D (pc' := 388) at_387 rfl rfl ?_
                    refine Go.iload D (pc' := 390) at_388 rfl rfl ?_
                    refine Go.iload D (pc' := 392) at_390 rfl rfl ?_
                    refine Go.iload D (pc' := 394) at_392 rfl rfl ?_
                    refine Go.callS D (argsL := [(.int tB1), (.int tB2), (.int lb)]) (rest := [(.ref o), (.ref o)]) (pc' := 397) (ce' := 26) (sl' := 350) (con_mk l Z a0 hw h384 n0 z384 none tB1 tB2 lb htB1.c16 htB2.c16 cz hcz O2 AD HI LO) (hw _ (List.mem_of_getElem? (i := 8) rfl)) (hw _ (List.mem_of_getElem? (i := 9) rfl)) (hw _ (List.mem_of_getElem? (i := 2) rfl)) (hw _ (List.mem_of_getElem? (i := 10) rfl)) (by decide) at_394 rfl pd3 rfl rfl rfl (by decide) (W := 2) rfl (by decide) (by decide) (by decide) (by decide) (by decide) ?_
                    intro v394 h394 σ394 q394
                    obtain ⟨rfl, u1, rfl, gu1, x394, Su1⟩ := q394
                    show Go κ none h394 26 350 397 #[.val (.int i0), .val (.int i1), .val (.int i2), .val (.int i3), .val (.int i4), .val (.int i5), .val (.int ia), .val (.int ib), .val (.int la), .val (.int fa), .val (.int fb), .val (.int lf), .val (.int d1), .val (.int d2), .val (.int ld), .val (.int m1), .val (.int m2), .val (.int m3), .val (.int ja), .val (.int jb), .val (.int lb), .val (.int ga), .val (.int gc), .val (.int lg), .val (.int e1), .val (.int e2), .val (.int le), .val (.int tA1), .val (.int tA2), .val (.int tB1), .val (.int tB2), .val (.int tC1), .val (.int tC2), .val (.int tD1), .val (.int tD2), .val (.ref s1), .val (.ref t), .unset, .unset, .unset, .unset, .unset, .unset, .unset] [(.ref u1), (.ref o), (.ref o)]
                    have Ss1 := Ss1.ext x394
                    have Ss2 := Ss2.ext x394
                    have Ss3 := Ss3.ext x394
                    have Qt := Qt.ext x394
                    have Po := Po.ext x394
                    have z394 : n0 ≤ h394.size := Nat.le_trans z384 x394.1
                    refine Go.iload D (pc' := 399) at_397 rfl rfl ?_
                    refine Go.iload D (pc' := 401) at_399 rfl rfl ?_
                    refine Go.iload D (pc' := 403) at_401 rfl rfl ?_
                    refine Go.callS D (argsL := [(.int e1), (.int e2), (.int le)]) (rest := [(.ref u1), (.ref o), (.ref o)]) (pc' := 406) (ce' := 30) (sl' := 420) (con_mk l Z a0 hw h394 n0 z394 none e1 e2 le he1.c16 he2.c16 cz hcz O2 AD HI LO) (hw _ (List.mem_of_getElem? (i := 8) rfl)) (hw _ (List.mem_of_getElem? (i := 9) rfl)) (hw _ (List.mem_of_getElem? (i := 2) rfl)) (hw _ (List.mem_of_getElem? (i := 10) rfl)) (by decide) at_403 rfl pd3 rfl rfl rfl (by decide) (W := 3) rfl (by decide) (by decide) (by decide) (by decide) (by decide) ?_
                    intro v403 h403 σ403 q403
                    obtain ⟨rfl, u2, rfl, gu2, x403, Su2⟩ := q403
                    show Go κ none h403 30 420 406 #[.val (.int i0), .val (.int i1), .val (.int i2), .val (.int i3), .val (.int i4), .val (.int i5), .val (.int ia), .val (.int ib), .val (.int la), .val (.int fa), .val (.int fb), .val (.int lf), .val (.int d1), .val (.int d2), .val (.int ld), .val (.int m1), .val (.int m2), .val (.int m3), .val (.int ja), .val (.int jb), .val (.int lb), .val (.int ga), .val (.int gc), .val (.int lg), .val (.int e1), .val (.int e2), .val (.int le), .val (.int tA1), .val (.int tA2), .val (.int tB1), .val (.int tB2), .val (.int tC1), .val (.int tC2), .val (.int tD1), .val (.int tD2), .val (.ref s1), .val (.ref t), .unset, .unset, .unset, .unset, .unset, .unset, .unset] [(.ref u2), (.ref u1), (.ref o), (.ref o)]
                    have Ss1 := Ss1.ext x403
                    have Ss2 := Ss2.ext x403
                    have Ss3 := Ss3.ext x403
                    have Qt := Qt.ext x403
                    have Po := Po.ext x403
                    have Su1 := Su1.ext x403
                    have z403 : n0 ≤ h403.size := Nat.le_trans z394 x403.1
                    refine Go.iload D (pc' := 408) at_406 rfl rfl ?_
                    refine Go.iload D (pc' := 410) at_408 rfl rfl ?_
                    refine Go.iload D (pc' := 412) at_410 rfl rfl ?_
                    refine Go.callS D (argsL := [(.int tD1), (.int tD2), (.int lg)]) (rest := [(.ref u2), (.ref u1), (.ref o), (.ref o)]) (pc' := 415) (ce' := 34) (sl' := 490) (con_mk l Z a0 hw h403 n0 z403 none tD1 tD2 lg htD1.c16 htD2.c16 cz hcz O2 AD HI LO) (hw _ (List.mem_of_getElem? (i := 8) rfl)) (hw _ (List.mem_of_getElem? (i := 9) rfl)) (hw _ (List.mem_of_getElem? (i := 2) rfl)) (hw _ (List.mem_of_getElem? (i := 10) rfl)) (by decide) at_412 rfl pd3 rfl rfl rfl (by decide) (W := 4) rfl (by decide) (by decide) (by decide) (by decide) (by decide) ?_
                    intro v412 h412 σ412 q412
                    obtain ⟨rfl, u3, rfl, gu3, x412, Su3⟩ := q412
                    show Go κ none h412 34 490 415 #[.val (.int i0), .val (.int i1), .val (.int i2), .val (.int i3), .val (.int i4), .val (.int i5), .val (.int ia), .val (.int ib), .val (.int la), .val (.int fa), .val (.int fb), .val (.int lf), .val (.int d1), .val (.int d2), .val (.int ld), .val (.int m1), .val (.int m2), .val (.int m3), .val (.int ja), .val (.int jb), .val (.int lb), .val (.int ga), .val (.int gc), .val (.int lg), .val (.int e1), .val (.int e2), .val (.int le), .val (.int tA1), .val (.int tA2), .val (.int tB1), .val (.int tB2), .val (.int tC1), .val (.int tC2), .val (.int tD1), .val (.int tD2), .val (.ref s1), .val (.ref t), .unset, .unset, .unset, .unset, .unset, .unset, .unset] [(.ref u3), (.ref u2), (.ref u1), (.ref o), (.ref o)]
                    have Ss1 := Ss1.ext x412
                    have Ss2 := Ss2.ext x412
                    have Ss3 := Ss3.ext x412
                    have Qt := Qt.ext x412
                    have Po := Po.ext x412
                    have Su1 := Su1.ext x412
                    have Su2 := Su2.ext x412
                    have z412 : n0 ≤ h412.size := Nat.le_trans z403 x412.1
                    have nt415 : t ≠ o := Fld.ne Qt.2.1 Po.2.1 (fun z => nomatch z)
                    have ns1o : s1 ≠ o := Exa.ne Ss1.exa Po.1 (by decide)
                    have ns2o : s2 ≠ o := Exa.ne Ss2.exa Po.1 (by decide)
                    have ns3o : s3 ≠ o := Exa.ne Ss3.exa Po.1 (by decide)
                    have nu1o : u1 ≠ o := Exa.ne Su1.exa Po.1 (by decide)
                    have nu2o : u2 ≠ o := Exa.ne Su2.exa Po.1 (by decide)
                    have nu3o : u3 ≠ o := Exa.ne Su3.exa Po.1 (by decide)
                    refine Go.callI D (argsL := [(.ref u1), (.ref u2), (.ref u3)]) (rest := [(.ref o)]) (pc' := 418) (ce' := 42) (sl' := 554) (con_ctorG l Z a0 hw h412 n0 z412 o u1 u2 u3 _ _ _ go0 Po (Su1.str (ch1_all htB1 htB2)) Su2 (Su3.str (ch1_all htD1 htD2)) (ch1_ne _ _ _) (ch1_ne _ _ _) (ch1_ne _ _ _) (ch1_len2 _ _ _) (ch1_all htB1 htB2) (ch1_all he1 he2) (ch1_all htD1 htD2) cz hcz O2 fm rf O4 u8 U1 U2 AD HI LO) rfl (hw _ (List.mem_of_getElem? (i := 44) rfl)) (hw _ (List.mem_of_getElem? (i := 45) rfl)) (hw _ (List.mem_of_getElem? (i := 43) rfl)) (hw _ (List.mem_of_getElem? (i := 46) rfl)) (by decide) at_415 rfl pd10 rfl rfl rfl (by decide) (W := 1) rfl (by decide) (by decide) (by decide) (by decide) (by decide) ?_
                    intro v415 h415 σ415 q415
                    obtain ⟨rfl, rfl, kt415, Qo⟩ := q415
                    show Go κ none h415 42 554 418 #[.val (.int i0), .val (.int i1), .val (.int i2), .val (.int i3), .val (.int i4), .val (.int i5), .val (.int ia), .val (.int ib), .val (.int la), .val (.int fa), .val (.int fb), .val (.int lf), .val (.int d1), .val (.int d2), .val (.int ld), .val (.int m1), .val (.int m2), .val (.int m3), .val (.int ja), .val (.int jb), .val (.int lb), .val (.int ga), .val (.int gc), .val (.int lg), .val (.int e1), .val (.int e2), .val (.int le), .val (.int tA1), .val (.int tA2), .val (.int tB1), .val (.int tB2), .val (.int tC1), .val (.int tC2), .val (.int tD1), .val (.int tD2), .val (.ref s1), .val (.ref t), .unset, .unset, .unset, .unset, .unset, .unset, .unset] [(.ref o)]
                    have Ss1 := Ss1.keep kt415 ns1o Po.1 (hw _ (List.mem_of_getElem? (i := 42) rfl))
                    have Ss2 := Ss2.keep kt415 ns2o Po.1 (hw _ (List.mem_of_getElem? (i := 42) rfl))
                    have Ss3 := Ss3.keep kt415 ns3o Po.1 (hw _ (List.mem_of_getElem? (i := 42) rfl))
                    have Qt := Qt.keep kt415 nt415
                    have Su1 := Su1.keep kt415 nu1o Po.1 (hw _ (List.mem_of_getElem? (i := 42) rfl))
                    have Su2 := Su2.keep kt415 nu2o Po.1 (hw _ (List.mem_of_getElem? (i := 42) rfl))
                    have Su3 := Su3.keep kt415 nu3o Po.1 (hw _ (List.mem_of_getElem? (i := 42) rfl))
                    have z415 : n0 ≤ h415.size := Nat.le_trans z412 kt415.1
                    refine Go.astore D (pc' := 420) at_418 rfl rfl (ls' := #[.val (.int i0), .val (.int i1), .val (.int i2), .val (.int i3), .val (.int i4), .val (.int i5), .val (.int ia), .val (.int ib), .val (.int la), .val (.int fa), .val (.int fb), .val (.int lf), .val (.int d1), .val (.int d2), .val (.int ld), .val (.int m1), .val (.int m2), .val (.int m3), .val (.int ja), .val (.int jb), .val (.int lb), .val (.int ga), .val (.int gc), .val (.int lg), .val (.int e1), .val (.int e2), .val (.int le), .val (.int tA1), .val (.int tA2), .val (.int tB1), .val (.int tB2), .val (.int tC1), .val (.int tC2), .val (.int tD1), .val (.int tD2), .val (.ref s1), .val (.ref t), .val (.ref o), .unset, .unset, .unset, .unset, .unset, .unset]) rfl ?_
                    refine Go.iload D (pc' := 422) at_420 rfl rfl ?_
                    refine Go.iload D (pc' := 424) at_422 rfl rfl ?_
                    have J452 : ∀ r1 : Int32, ((r1 = 1 ∧ ch1 la tA1 tA2 = ch1 lb tB1 tB2) ∨ (r1 = 0 ∧ ¬ ch1 la tA1 tA2 = ch1 lb tB1 tB2)) → Go κ none h415 42 554 452 #[.val (.int i0), .val (.int i1), .val (.int i2), .val (.int i3), .val (.int i4), .val (.int i5), .val (.int ia), .val (.int ib), .val (.int la), .val (.int fa), .val (.int fb), .val (.int lf), .val (.int d1), .val (.int d2), .val (.int ld), .val (.int m1), .val (.int m2), .val (.int m3), .val (.int ja), .val (.int jb), .val (.int lb), .val (.int ga), .val (.int gc), .val (.int lg), .val (.int e1), .val (.int e2), .val (.int le), .val (.int tA1), .val (.int tA2), .val (.int tB1), .val (.int tB2), .val (.int tC1), .val (.int tC2), .val (.int tD1), .val (.int tD2), .val (.ref s1), .val (.ref t), .val (.ref o), .unset, .unset, .unset, .unset, .unset, .unset] [(.int r1)] := by
                      intro r1 hr1
                      refine Go.istore D (pc' := 454) at_452 rfl (ls' := #[.val (.int i0), .val (.int i1), .val (.int i2), .val (.int i3), .val (.int i4), .val (.int i5), .val (.int ia), .val (.int ib), .val (.int la), .val (.int fa), .val (.int fb), .val (.int lf), .val (.int d1), .val (.int d2), .val (.int ld), .val (.int m1), .val (.int m2), .val (.int m3), .val (.int ja), .val (.int jb), .val (.int lb), .val (.int ga), .val (.int gc), .val (.int lg), .val (.int e1), .val (.int e2), .val (.int le), .val (.int tA1), .val (.int tA2), .val (.int tB1), .val (.int tB2), .val (.int tC1), .val (.int tC2), .val (.int tD1), .val (.int tD2), .val (.ref s1), .val (.ref t), .val (.ref o), .val (.int r1), .unset, .unset, .unset, .unset, .unset]) rfl ?_
                      refine Go.iload D (pc' := 456) at_454 rfl rfl ?_
                      refine Go.iload D (pc' := 458) at_456 rfl rfl ?_
                      have J486 : ∀ r2 : Int32, ((r2 = 1 ∧ ch1 ld d1 d2 = ch1 le e1 e2) ∨ (r2 = 0 ∧ ¬ ch1 ld d1 d2 = ch1 le e1 e2)) → Go κ none h415 42 554 486 #[.val (.int i0), .val (.int i1), .val (.int i2), .val (.int i3), .val (.int i4), .val (.int i5), .val (.int ia), .val (.int ib), .val (.int la), .val (.int fa), .val (.int fb), .val (.int lf), .val (.int d1), .val (.int d2), .val (.int ld), .val (.int m1), .val (.int m2), .val (.int m3), .val (.int ja), .val (.int jb), .val (.int lb), .val (.int ga), .val (.int gc), .val (.int lg), .val (.int e1), .val (.int e2), .val (.int le), .val (.int tA1), .val (.int tA2), .val (.int tB1), .val (.int tB2), .val (.int tC1), .val (.int tC2), .val (.int tD1), .val (.int tD2), .val (.ref s1), .val (.ref t), .val (.ref o), .val (.int r1), .unset, .unset, .unset, .unset, .unset] [(.int r2)] := by
                        intro r2 hr2
                        refine Go.istore D (pc' := 488) at_486 rfl (ls' := #[.val (.int i0), .val (.int i1), .val (.int i2), .val (.int i3), .val (.int i4), .val (.int i5), .val (.int ia), .val (.int ib), .val (.int la), .val (.int fa), .val (.int fb), .val (.int lf), .val (.int d1), .val (.int d2), .val (.int ld), .val (.int m1), .val (.int m2), .val (.int m3), .val (.int ja), .val (.int jb), .val (.int lb), .val (.int ga), .val (.int gc), .val (.int lg), .val (.int e1), .val (.int e2), .val (.int le), .val (.int tA1), .val (.int tA2), .val (.int tB1), .val (.int tB2), .val (.int tC1), .val (.int tC2), .val (.int tD1), .val (.int tD2), .val (.ref s1), .val (.ref t), .val (.ref o), .val (.int r1), .val (.int r2), .unset, .unset, .unset, .unset]) rfl ?_
                        refine Go.iload D (pc' := 490) at_488 rfl rfl ?_
                        refine Go.iload D (pc' := 492) at_490 rfl rfl ?_
                        have J520 : ∀ r3 : Int32, ((r3 = 1 ∧ ch1 lf tC1 tC2 = ch1 lg tD1 tD2) ∨ (r3 = 0 ∧ ¬ ch1 lf tC1 tC2 = ch1 lg tD1 tD2)) → Go κ none h415 42 554 520 #[.val (.int i0), .val (.int i1), .val (.int i2), .val (.int i3), .val (.int i4), .val (.int i5), .val (.int ia), .val (.int ib), .val (.int la), .val (.int fa), .val (.int fb), .val (.int lf), .val (.int d1), .val (.int d2), .val (.int ld), .val (.int m1), .val (.int m2), .val (.int m3), .val (.int ja), .val (.int jb), .val (.int lb), .val (.int ga), .val (.int gc), .val (.int lg), .val (.int e1), .val (.int e2), .val (.int le), .val (.int tA1), .val (.int tA2), .val (.int tB1), .val (.int tB2), .val (.int tC1), .val (.int tC2), .val (.int tD1), .val (.int tD2), .val (.ref s1), .val (.ref t), .val (.ref o), .val (.int r1), .val (.int r2), .unset, .unset, .unset, .unset] [(.int r3)] := by
                          intro r3 hr3
                          refine Go.istore D (pc' := 522) at_520 rfl (ls' := #[.val (.int i0), .val (.int i1), .val (.int i2), .val (.int i3), .val (.int i4), .val (.int i5), .val (.int ia), .val (.int ib), .val (.int la), .val (.int fa), .val (.int fb), .val (.int lf), .val (.int d1), .val (.int d2), .val (.int ld), .val (.int m1), .val (.int m2), .val (.int m3), .val (.int ja), .val (.int jb), .val (.int lb), .val (.int ga), .val (.int gc), .val (.int lg), .val (.int e1), .val (.int e2), .val (.int le), .val (.int tA1), .val (.int tA2), .val (.int tB1), .val (.int tB2), .val (.int tC1), .val (.int tC2), .val (.int tD1), .val (.int tD2), .val (.ref s1), .val (.ref t), .val (.ref o), .val (.int r1), .val (.int r2), .val (.int r3), .unset, .unset, .unset]) rfl ?_
                          refine Go.iload D (pc' := 524) at_522 rfl rfl ?_
                          have J542 : ∀ sm : Int32, ((sm = 1 ∧ ch1 la tA1 tA2 = ch1 lb tB1 tB2 ∧ ch1 ld d1 d2 = ch1 le e1 e2 ∧ ch1 lf tC1 tC2 = ch1 lg tD1 tD2) ∨ (sm = 0 ∧ ¬ (ch1 la tA1 tA2 = ch1 lb tB1 tB2 ∧ ch1 ld d1 d2 = ch1 le e1 e2 ∧ ch1 lf tC1 tC2 = ch1 lg tD1 tD2))) → Go κ none h415 42 554 542 #[.val (.int i0), .val (.int i1), .val (.int i2), .val (.int i3), .val (.int i4), .val (.int i5), .val (.int ia), .val (.int ib), .val (.int la), .val (.int fa), .val (.int fb), .val (.int lf), .val (.int d1), .val (.int d2), .val (.int ld), .val (.int m1), .val (.int m2), .val (.int m3), .val (.int ja), .val (.int jb), .val (.int lb), .val (.int ga), .val (.int gc), .val (.int lg), .val (.int e1), .val (.int e2), .val (.int le), .val (.int tA1), .val (.int tA2), .val (.int tB1), .val (.int tB2), .val (.int tC1), .val (.int tC2), .val (.int tD1), .val (.int tD2), .val (.ref s1), .val (.ref t), .val (.ref o), .val (.int r1), .val (.int r2), .val (.int r3), .unset, .unset, .unset] [(.int sm)] := by
                            intro sm hsm
                            refine Go.istore D (pc' := 544) at_542 rfl (ls' := #[.val (.int i0), .val (.int i1), .val (.int i2), .val (.int i3), .val (.int i4), .val (.int i5), .val (.int ia), .val (.int ib), .val (.int la), .val (.int fa), .val (.int fb), .val (.int lf), .val (.int d1), .val (.int d2), .val (.int ld), .val (.int m1), .val (.int m2), .val (.int m3), .val (.int ja), .val (.int jb), .val (.int lb), .val (.int ga), .val (.int gc), .val (.int lg), .val (.int e1), .val (.int e2), .val (.int le), .val (.int tA1), .val (.int tA2), .val (.int tB1), .val (.int tB2), .val (.int tC1), .val (.int tC2), .val (.int tD1), .val (.int tD2), .val (.ref s1), .val (.ref t), .val (.ref o), .val (.int r1), .val (.int r2), .val (.int r3), .val (.int sm), .unset, .unset]) rfl ?_
                            refine Go.iload D (pc' := 546) at_544 rfl rfl ?_
                            refine Go.iconst D (pc' := 547) at_546 rfl (v := (3 : Int32)) rfl ?_
                            refine Go.iand D (pc' := 548) at_547 rfl  ?_
                            obtain ⟨kd, ekd⟩ : ∃ x, x = (i5 &&& (3 : Int32)) := ⟨_, rfl⟩
                            rw [← ekd]
                            refine Go.istore D (pc' := 550) at_548 rfl (ls' := #[.val (.int i0), .val (.int i1), .val (.int i2), .val (.int i3), .val (.int i4), .val (.int i5), .val (.int ia), .val (.int ib), .val (.int la), .val (.int fa), .val (.int fb), .val (.int lf), .val (.int d1), .val (.int d2), .val (.int ld), .val (.int m1), .val (.int m2), .val (.int m3), .val (.int ja), .val (.int jb), .val (.int lb), .val (.int ga), .val (.int gc), .val (.int lg), .val (.int e1), .val (.int e2), .val (.int le), .val (.int tA1), .val (.int tA2), .val (.int tB1), .val (.int tB2), .val (.int tC1), .val (.int tC2), .val (.int tD1), .val (.int tD2), .val (.ref s1), .val (.ref t), .val (.ref o), .val (.int r1), .val (.int r2), .val (.int r3), .val (.int sm), .val (.int kd), .unset]) rfl ?_
                            refine Go.iload D (pc' := 552) at_550 rfl rfl ?_
                            refine Go.ifc D (pc' := 585) (pc2 := 555) at_552 (by decide) (by decide) rfl ?_ ?_
                            · intro (hc552 : ¬ kd = 0)
                              refine Go.iload D (pc' := 587) at_585 rfl rfl ?_
                              refine Go.iconst D (pc' := 588) at_587 rfl (v := (1 : Int32)) rfl ?_
                              refine Go.icmp D (pc' := 606) (pc2 := 591) at_588 (by decide) (by decide) rfl ?_ ?_
                              · intro (hc588 : ¬ kd = (1 : Int32))
                                refine Go.iload D (pc' := 608) at_606 rfl rfl ?_
                                refine Go.iconst D (pc' := 609) at_608 rfl (v := (2 : Int32)) rfl ?_
                                refine Go.icmp D (pc' := 632) (pc2 := 612) at_609 (by decide) (by decide) rfl ?_ ?_
                                · intro (hc609 : ¬ kd = (2 : Int32))
                                  refine Go.aload D (pc' := 634) at_632 rfl rfl rfl ?_
                                  refine Go.aload D (pc' := 636) at_634 rfl rfl rfl ?_
                                  refine Go.callV D (argsL := [(.ref t)]) (rest := []) (pc' := 639) (ce' := 42) (sl' := 554) (con_eqG l Z a0 hw h415 n0 none t t s1 s2 s3 s1 s2 s3 _ _ _ _ _ _ Qt Qt (Ss1.str (ch1_all htA1 htA2)) (Ss1.str (ch1_all htA1 htA2)) Ss2 Ss2 (Ss3.str (ch1_all htC1 htC2)) (Ss3.str (ch1_all htC1 htC2)) cz hcz O2) (hw _ (List.mem_of_getElem? (i := 166) rfl)) (hw _ (List.mem_of_getElem? (i := 167) rfl)) (hw _ (List.mem_of_getElem? (i := 169) rfl)) (hw _ (List.mem_of_getElem? (i := 168) rfl)) (hw _ (List.mem_of_getElem? (i := 43) rfl)) (hw _ (List.mem_of_getElem? (i := 170) rfl)) (nfS (hw _ (List.mem_of_getElem? (i := 169) rfl))) (by decide) Qt.1 at_636 rfl pd34 rfl rfl rfl (by decide) (W := 0) rfl (by decide) (by decide) (by decide) (by decide) (by decide) ?_
                                  intro v636 h636 σ636 q636
                                  obtain ⟨rfl, rfl, rc, rfl, hrc⟩ := q636
                                  obtain rfl : rc = 1 := hrc.elim (fun z => z.1) (fun z => absurd ⟨rfl, rfl, rfl⟩ z.2)
                                  show Go κ none h415 42 554 639 #[.val (.int i0), .val (.int i1), .val (.int i2), .val (.int i3), .val (.int i4), .val (.int i5), .val (.int ia), .val (.int ib), .val (.int la), .val (.int fa), .val (.int fb), .val (.int lf), .val (.int d1), .val (.int d2), .val (.int ld), .val (.int m1), .val (.int m2), .val (.int m3), .val (.int ja), .val (.int jb), .val (.int lb), .val (.int ga), .val (.int gc), .val (.int lg), .val (.int e1), .val (.int e2), .val (.int le), .val (.int tA1), .val (.int tA2), .val (.int tB1), .val (.int tB2), .val (.int tC1), .val (.int tC2), .val (.int tD1), .val (.int tD2), .val (.ref s1), .val (.ref t), .val (.ref o), .val (.int r1), .val (.int r2), .val (.int r3), .val (.int sm), .val (.int kd), .unset] [(.int (1 : Int32))]
                                  refine Go.zret D rfl rfl at_639 (by decide) (by decide) ?_
                                  exact rfl
                                · intro (hc609 : kd = (2 : Int32))
                                  refine Go.aload D (pc' := 614) at_612 rfl rfl rfl ?_
                                  refine Go.astore D (pc' := 616) at_614 rfl rfl (ls' := #[.val (.int i0), .val (.int i1), .val (.int i2), .val (.int i3), .val (.int i4), .val (.int i5), .val (.int ia), .val (.int ib), .val (.int la), .val (.int fa), .val (.int fb), .val (.int lf), .val (.int d1), .val (.int d2), .val (.int ld), .val (.int m1), .val (.int m2), .val (.int m3), .val (.int ja), .val (.int jb), .val (.int lb), .val (.int ga), .val (.int gc), .val (.int lg), .val (.int e1), .val (.int e2), .val (.int le), .val (.int tA1), .val (.int tA2), .val (.int tB1), .val (.int tB2), .val (.int tC1), .val (.int tC2), .val (.int tD1), .val (.int tD2), .val (.ref s1), .val (.ref t), .val (.ref o), .val (.int r1), .val (.int r2), .val (.int r3), .val (.int sm), .val (.int kd), .val (.ref s1)]) rfl ?_
                                  refine Go.aload D (pc' := 618) at_616 rfl rfl rfl ?_
                                  refine Go.aload D (pc' := 620) at_618 rfl rfl rfl ?_
                                  refine Go.callV D (argsL := [(.ref s1)]) (rest := []) (pc' := 623) (ce' := 42) (sl' := 554) (con_eqStr l Z a0 hw h415 n0 none t s1 Ss1.exa) (hw _ (List.mem_of_getElem? (i := 166) rfl)) (hw _ (List.mem_of_getElem? (i := 167) rfl)) (hw _ (List.mem_of_getElem? (i := 169) rfl)) (hw _ (List.mem_of_getElem? (i := 168) rfl)) (hw _ (List.mem_of_getElem? (i := 43) rfl)) (hw _ (List.mem_of_getElem? (i := 170) rfl)) (nfS (hw _ (List.mem_of_getElem? (i := 169) rfl))) (by decide) Qt.1 at_620 rfl pd34 rfl rfl rfl (by decide) (W := 0) rfl (by decide) (by decide) (by decide) (by decide) (by decide) ?_
                                  intro v620 h620 σ620 q620
                                  obtain ⟨rfl, rfl, rfl⟩ := q620
                                  show Go κ none h415 42 554 623 #[.val (.int i0), .val (.int i1), .val (.int i2), .val (.int i3), .val (.int i4), .val (.int i5), .val (.int ia), .val (.int ib), .val (.int la), .val (.int fa), .val (.int fb), .val (.int lf), .val (.int d1), .val (.int d2), .val (.int ld), .val (.int m1), .val (.int m2), .val (.int m3), .val (.int ja), .val (.int jb), .val (.int lb), .val (.int ga), .val (.int gc), .val (.int lg), .val (.int e1), .val (.int e2), .val (.int le), .val (.int tA1), .val (.int tA2), .val (.int tB1), .val (.int tB2), .val (.int tC1), .val (.int tC2), .val (.int tD1), .val (.int tD2), .val (.ref s1), .val (.ref t), .val (.ref o), .val (.int r1), .val (.int r2), .val (.int r3), .val (.int sm), .val (.int kd), .val (.ref s1)] [(.int (0 : Int32))]
                                  refine Go.ifc D (pc' := 630) (pc2 := 626) at_623 (by decide) (by decide) rfl (fun (hc : ¬ (0 : Int32) = 0) => absurd hc (by decide)) (fun _ => ?_)
                                  refine Go.iconst D (pc' := 627) at_626 rfl (v := (1 : Int32)) rfl ?_
                                  refine Go.goto D (pc' := 631) at_627 (by decide) (by decide) ?_
                                  refine Go.zret D rfl rfl at_631 (by decide) (by decide) ?_
                                  exact rfl
                              · intro (hc588 : kd = (1 : Int32))
                                refine Go.aload D (pc' := 593) at_591 rfl rfl rfl ?_
                                refine Go.aconstNull D (pc' := 594) at_593 rfl  ?_
                                refine Go.callV D (argsL := [(.null)]) (rest := []) (pc' := 597) (ce' := 42) (sl' := 554) (con_eqNull l Z a0 hw h415 n0 none t) (hw _ (List.mem_of_getElem? (i := 166) rfl)) (hw _ (List.mem_of_getElem? (i := 167) rfl)) (hw _ (List.mem_of_getElem? (i := 169) rfl)) (hw _ (List.mem_of_getElem? (i := 168) rfl)) (hw _ (List.mem_of_getElem? (i := 43) rfl)) (hw _ (List.mem_of_getElem? (i := 170) rfl)) (nfS (hw _ (List.mem_of_getElem? (i := 169) rfl))) (by decide) Qt.1 at_594 rfl pd34 rfl rfl rfl (by decide) (W := 0) rfl (by decide) (by decide) (by decide) (by decide) (by decide) ?_
                                intro v594 h594 σ594 q594
                                obtain ⟨rfl, rfl, rfl⟩ := q594
                                show Go κ none h415 42 554 597 #[.val (.int i0), .val (.int i1), .val (.int i2), .val (.int i3), .val (.int i4), .val (.int i5), .val (.int ia), .val (.int ib), .val (.int la), .val (.int fa), .val (.int fb), .val (.int lf), .val (.int d1), .val (.int d2), .val (.int ld), .val (.int m1), .val (.int m2), .val (.int m3), .val (.int ja), .val (.int jb), .val (.int lb), .val (.int ga), .val (.int gc), .val (.int lg), .val (.int e1), .val (.int e2), .val (.int le), .val (.int tA1), .val (.int tA2), .val (.int tB1), .val (.int tB2), .val (.int tC1), .val (.int tC2), .val (.int tD1), .val (.int tD2), .val (.ref s1), .val (.ref t), .val (.ref o), .val (.int r1), .val (.int r2), .val (.int r3), .val (.int sm), .val (.int kd), .unset] [(.int (0 : Int32))]
                                refine Go.ifc D (pc' := 604) (pc2 := 600) at_597 (by decide) (by decide) rfl (fun (hc : ¬ (0 : Int32) = 0) => absurd hc (by decide)) (fun _ => ?_)
                                refine Go.iconst D (pc' := 601) at_600 rfl (v := (1 : Int32)) rfl ?_
                                refine Go.goto D (pc' := 605) at_601 (by decide) (by decide) ?_
                                refine Go.zret D rfl rfl at_605 (by decide) (by decide) ?_
                                exact rfl
                            · intro (hc552 : kd = 0)
                              refine Go.aload D (pc' := 557) at_555 rfl rfl rfl ?_
                              refine Go.aload D (pc' := 559) at_557 rfl rfl rfl ?_
                              refine Go.callV D (argsL := [(.ref o)]) (rest := []) (pc' := 562) (ce' := 42) (sl' := 554) (con_eqG l Z a0 hw h415 n0 none t o s1 s2 s3 u1 u2 u3 _ _ _ _ _ _ Qt Qo (Ss1.str (ch1_all htA1 htA2)) (Su1.str (ch1_all htB1 htB2)) Ss2 Su2 (Ss3.str (ch1_all htC1 htC2)) (Su3.str (ch1_all htD1 htD2)) cz hcz O2) (hw _ (List.mem_of_getElem? (i := 166) rfl)) (hw _ (List.mem_of_getElem? (i := 167) rfl)) (hw _ (List.mem_of_getElem? (i := 169) rfl)) (hw _ (List.mem_of_getElem? (i := 168) rfl)) (hw _ (List.mem_of_getElem? (i := 43) rfl)) (hw _ (List.mem_of_getElem? (i := 170) rfl)) (nfS (hw _ (List.mem_of_getElem? (i := 169) rfl))) (by decide) Qt.1 at_559 rfl pd34 rfl rfl rfl (by decide) (W := 0) rfl (by decide) (by decide) (by decide) (by decide) (by decide) ?_
                              intro v559 h559 σ559 q559
                              obtain ⟨rfl, rfl, ra, rfl, hra⟩ := q559
                              show Go κ none h415 42 554 562 #[.val (.int i0), .val (.int i1), .val (.int i2), .val (.int i3), .val (.int i4), .val (.int i5), .val (.int ia), .val (.int ib), .val (.int la), .val (.int fa), .val (.int fb), .val (.int lf), .val (.int d1), .val (.int d2), .val (.int ld), .val (.int m1), .val (.int m2), .val (.int m3), .val (.int ja), .val (.int jb), .val (.int lb), .val (.int ga), .val (.int gc), .val (.int lg), .val (.int e1), .val (.int e2), .val (.int le), .val (.int tA1), .val (.int tA2), .val (.int tB1), .val (.int tB2), .val (.int tC1), .val (.int tC2), .val (.int tD1), .val (.int tD2), .val (.ref s1), .val (.ref t), .val (.ref o), .val (.int r1), .val (.int r2), .val (.int r3), .val (.int sm), .val (.int kd), .unset] [(.int ra)]
                              refine Go.iload D (pc' := 564) at_562 rfl rfl ?_
                              refine Go.icmp D (pc' := 583) (pc2 := 567) at_564 (by decide) (by decide) rfl ?_ ?_
                              · intro (hc564 : ¬ ra = sm)
                                exact absurd (same_eq hra hsm) hc564
                              · intro (hc564 : ra = sm)
                                refine Go.aload D (pc' := 569) at_567 rfl rfl rfl ?_
                                refine Go.aload D (pc' := 571) at_569 rfl rfl rfl ?_
                                refine Go.callV D (argsL := [(.ref t)]) (rest := []) (pc' := 574) (ce' := 42) (sl' := 554) (con_eqG l Z a0 hw h415 n0 none o t u1 u2 u3 s1 s2 s3 _ _ _ _ _ _ Qo Qt (Su1.str (ch1_all htB1 htB2)) (Ss1.str (ch1_all htA1 htA2)) Su2 Ss2 (Su3.str (ch1_all htD1 htD2)) (Ss3.str (ch1_all htC1 htC2)) cz hcz O2) (hw _ (List.mem_of_getElem? (i := 166) rfl)) (hw _ (List.mem_of_getElem? (i := 167) rfl)) (hw _ (List.mem_of_getElem? (i := 169) rfl)) (hw _ (List.mem_of_getElem? (i := 168) rfl)) (hw _ (List.mem_of_getElem? (i := 43) rfl)) (hw _ (List.mem_of_getElem? (i := 170) rfl)) (nfS (hw _ (List.mem_of_getElem? (i := 169) rfl))) (by decide) Qo.1 at_571 rfl pd34 rfl rfl rfl (by decide) (W := 0) rfl (by decide) (by decide) (by decide) (by decide) (by decide) ?_
                                intro v571 h571 σ571 q571
                                obtain ⟨rfl, rfl, rb, rfl, hrb0⟩ := q571
                                have hrb : (rb = 1 ∧ ch1 la tA1 tA2 = ch1 lb tB1 tB2 ∧ ch1 ld d1 d2 = ch1 le e1 e2 ∧ ch1 lf tC1 tC2 = ch1 lg tD1 tD2) ∨ (rb = 0 ∧ ¬ (ch1 la tA1 tA2 = ch1 lb tB1 tB2 ∧ ch1 ld d1 d2 = ch1 le e1 e2 ∧ ch1 lf tC1 tC2 = ch1 lg tD1 tD2)) := hrb0.imp (fun z => ⟨z.1, z.2.1.symm, z.2.2.1.symm, z.2.2.2.symm⟩) (fun z => ⟨z.1, fun q => z.2 ⟨q.1.symm, q.2.1.symm, q.2.2.symm⟩⟩)
                                show Go κ none h415 42 554 574 #[.val (.int i0), .val (.int i1), .val (.int i2), .val (.int i3), .val (.int i4), .val (.int i5), .val (.int ia), .val (.int ib), .val (.int la), .val (.int fa), .val (.int fb), .val (.int lf), .val (.int d1), .val (.int d2), .val (.int ld), .val (.int m1), .val (.int m2), .val (.int m3), .val (.int ja), .val (.int jb), .val (.int lb), .val (.int ga), .val (.int gc), .val (.int lg), .val (.int e1), .val (.int e2), .val (.int le), .val (.int tA1), .val (.int tA2), .val (.int tB1), .val (.int tB2), .val (.int tC1), .val (.int tC2), .val (.int tD1), .val (.int tD2), .val (.ref s1), .val (.ref t), .val (.ref o), .val (.int r1), .val (.int r2), .val (.int r3), .val (.int sm), .val (.int kd), .unset] [(.int rb)]
                                refine Go.iload D (pc' := 576) at_574 rfl rfl ?_
                                refine Go.icmp D (pc' := 583) (pc2 := 579) at_576 (by decide) (by decide) rfl ?_ ?_
                                · intro (hc576 : ¬ rb = sm)
                                  exact absurd (same_eq hrb hsm) hc576
                                · intro (hc576 : rb = sm)
                                  refine Go.iconst D (pc' := 580) at_579 rfl (v := (1 : Int32)) rfl ?_
                                  refine Go.goto D (pc' := 584) at_580 (by decide) (by decide) ?_
                                  refine Go.zret D rfl rfl at_584 (by decide) (by decide) ?_
                                  exact rfl
                          refine Go.ifc D (pc' := 541) (pc2 := 527) at_524 (by decide) (by decide) rfl ?_ ?_
                          · intro (hc524 : r1 = 0)
                            refine Go.iconst D (pc' := 542) at_541 rfl (v := (0 : Int32)) rfl ?_
                            exact J542 (0 : Int32) (Or.inr ⟨rfl, fun q => hr1.elim (fun z => absurd hc524 (by rw [z.1]; decide)) (fun z => z.2 q.1)⟩)
                          · intro (hc524 : ¬ r1 = 0)
                            refine Go.iload D (pc' := 529) at_527 rfl rfl ?_
                            refine Go.ifc D (pc' := 541) (pc2 := 532) at_529 (by decide) (by decide) rfl ?_ ?_
                            · intro (hc529 : r2 = 0)
                              refine Go.iconst D (pc' := 542) at_541 rfl (v := (0 : Int32)) rfl ?_
                              exact J542 (0 : Int32) (Or.inr ⟨rfl, fun q => hr2.elim (fun z => absurd hc529 (by rw [z.1]; decide)) (fun z => z.2 q.2.1)⟩)
                            · intro (hc529 : ¬ r2 = 0)
                              refine Go.iload D (pc' := 534) at_532 rfl rfl ?_
                              refine Go.ifc D (pc' := 541) (pc2 := 537) at_534 (by decide) (by decide) rfl ?_ ?_
                              · intro (hc534 : r3 = 0)
                                refine Go.iconst D (pc' := 542) at_541 rfl (v := (0 : Int32)) rfl ?_
                                exact J542 (0 : Int32) (Or.inr ⟨rfl, fun q => hr3.elim (fun z => absurd hc534 (by rw [z.1]; decide)) (fun z => z.2 q.2.2)⟩)
                              · intro (hc534 : ¬ r3 = 0)
                                refine Go.iconst D (pc' := 538) at_537 rfl (v := (1 : Int32)) rfl ?_
                                refine Go.goto D (pc' := 542) at_538 (by decide) (by decide) ?_
                                exact J542 (1 : Int32) (Or.inl ⟨rfl, hr1.elim (fun z => z.2) (fun z => absurd z.1 hc524), hr2.elim (fun z => z.2) (fun z => absurd z.1 hc529), hr3.elim (fun z => z.2) (fun z => absurd z.1 hc534)⟩)
                        refine Go.icmp D (pc' := 519) (pc2 := 495) at_492 (by decide) (by decide) rfl ?_ ?_
                        · intro (hc492 : ¬ lf = lg)
                          refine Go.iconst D (pc' := 520) at_519 rfl (v := (0 : Int32)) rfl ?_
                          exact J520 (0 : Int32) (Or.inr ⟨rfl, fun e => hc492 ((ch1_eq hlf hlg).mp e).1⟩)
                        · intro (hc492 : lf = lg)
                          refine Go.iload D (pc' := 497) at_495 rfl rfl ?_
                          refine Go.iload D (pc' := 499) at_497 rfl rfl ?_
                          refine Go.icmp D (pc' := 519) (pc2 := 502) at_499 (by decide) (by decide) rfl ?_ ?_
                          · intro (hc499 : ¬ tC1 = tD1)
                            refine Go.iconst D (pc' := 520) at_519 rfl (v := (0 : Int32)) rfl ?_
                            exact J520 (0 : Int32) (Or.inr ⟨rfl, fun e => hc499 ((ch1_eq hlf hlg).mp e).2.1⟩)
                          · intro (hc499 : tC1 = tD1)
                            refine Go.iload D (pc' := 504) at_502 rfl rfl ?_
                            refine Go.iconst D (pc' := 505) at_504 rfl (v := (1 : Int32)) rfl ?_
                            refine Go.icmp D (pc' := 515) (pc2 := 508) at_505 (by decide) (by decide) rfl ?_ ?_
                            · intro (hc505 : lf = (1 : Int32))
                              refine Go.iconst D (pc' := 516) at_515 rfl (v := (1 : Int32)) rfl ?_
                              refine Go.goto D (pc' := 520) at_516 (by decide) (by decide) ?_
                              exact J520 (1 : Int32) (Or.inl ⟨rfl, (ch1_eq hlf hlg).mpr ⟨hc492, hc499, Or.inl hc505⟩⟩)
                            · intro (hc505 : ¬ lf = (1 : Int32))
                              refine Go.iload D (pc' := 510) at_508 rfl rfl ?_
                              refine Go.iload D (pc' := 512) at_510 rfl rfl ?_
                              refine Go.icmp D (pc' := 519) (pc2 := 515) at_512 (by decide) (by decide) rfl ?_ ?_
                              · intro (hc512 : ¬ tC2 = tD2)
                                refine Go.iconst D (pc' := 520) at_519 rfl (v := (0 : Int32)) rfl ?_
                                exact J520 (0 : Int32) (Or.inr ⟨rfl, fun e => ((ch1_eq hlf hlg).mp e).2.2.elim hc505 hc512⟩)
                              · intro (hc512 : tC2 = tD2)
                                refine Go.iconst D (pc' := 516) at_515 rfl (v := (1 : Int32)) rfl ?_
                                refine Go.goto D (pc' := 520) at_516 (by decide) (by decide) ?_
                                exact J520 (1 : Int32) (Or.inl ⟨rfl, (ch1_eq hlf hlg).mpr ⟨hc492, hc499, Or.inr hc512⟩⟩)
                      refine Go.icmp D (pc' := 485) (pc2 := 461) at_458 (by decide) (by decide) rfl ?_ ?_
                      · intro (hc458 : ¬ ld = le)
                        refine Go.iconst D (pc' := 486) at_485 rfl (v := (0 : Int32)) rfl ?_
                        exact J486 (0 : Int32) (Or.inr ⟨rfl, fun e => hc458 ((ch1_eq hld hle).mp e).1⟩)
                      · intro (hc458 : ld = le)
                        refine Go.iload D (pc' := 463) at_461 rfl rfl ?_
                        refine Go.iload D (pc' := 465) at_463 rfl rfl ?_
                        refine Go.icmp D (pc' := 485) (pc2 := 468) at_465 (by decide) (by decide) rfl ?_ ?_
                        · intro (hc465 : ¬ d1 = e1)
                          refine Go.iconst D (pc' := 486) at_485 rfl (v := (0 : Int32)) rfl ?_
                          exact J486 (0 : Int32) (Or.inr ⟨rfl, fun e => hc465 ((ch1_eq hld hle).mp e).2.1⟩)
                        · intro (hc465 : d1 = e1)
                          refine Go.iload D (pc' := 470) at_468 rfl rfl ?_
                          refine Go.iconst D (pc' := 471) at_470 rfl (v := (1 : Int32)) rfl ?_
                          refine Go.icmp D (pc' := 481) (pc2 := 474) at_471 (by decide) (by decide) rfl ?_ ?_
                          · intro (hc471 : ld = (1 : Int32))
                            refine Go.iconst D (pc' := 482) at_481 rfl (v := (1 : Int32)) rfl ?_
                            refine Go.goto D (pc' := 486) at_482 (by decide) (by decide) ?_
                            exact J486 (1 : Int32) (Or.inl ⟨rfl, (ch1_eq hld hle).mpr ⟨hc458, hc465, Or.inl hc471⟩⟩)
                          · intro (hc471 : ¬ ld = (1 : Int32))
                            refine Go.iload D (pc' := 476) at_474 rfl rfl ?_
                            refine Go.iload D (pc' := 478) at_476 rfl rfl ?_
                            refine Go.icmp D (pc' := 485) (pc2 := 481) at_478 (by decide) (by decide) rfl ?_ ?_
                            · intro (hc478 : ¬ d2 = e2)
                              refine Go.iconst D (pc' := 486) at_485 rfl (v := (0 : Int32)) rfl ?_
                              exact J486 (0 : Int32) (Or.inr ⟨rfl, fun e => ((ch1_eq hld hle).mp e).2.2.elim hc471 hc478⟩)
                            · intro (hc478 : d2 = e2)
                              refine Go.iconst D (pc' := 482) at_481 rfl (v := (1 : Int32)) rfl ?_
                              refine Go.goto D (pc' := 486) at_482 (by decide) (by decide) ?_
                              exact J486 (1 : Int32) (Or.inl ⟨rfl, (ch1_eq hld hle).mpr ⟨hc458, hc465, Or.inr hc478⟩⟩)
                    refine Go.icmp D (pc' := 451) (pc2 := 427) at_424 (by decide) (by decide) rfl ?_ ?_
                    · intro (hc424 : ¬ la = lb)
                      refine Go.iconst D (pc' := 452) at_451 rfl (v := (0 : Int32)) rfl ?_
                      exact J452 (0 : Int32) (Or.inr ⟨rfl, fun e => hc424 ((ch1_eq hla hlb).mp e).1⟩)
                    · intro (hc424 : la = lb)
                      refine Go.iload D (pc' := 429) at_427 rfl rfl ?_
                      refine Go.iload D (pc' := 431) at_429 rfl rfl ?_
                      refine Go.icmp D (pc' := 451) (pc2 := 434) at_431 (by decide) (by decide) rfl ?_ ?_
                      · intro (hc431 : ¬ tA1 = tB1)
                        refine Go.iconst D (pc' := 452) at_451 rfl (v := (0 : Int32)) rfl ?_
                        exact J452 (0 : Int32) (Or.inr ⟨rfl, fun e => hc431 ((ch1_eq hla hlb).mp e).2.1⟩)
                      · intro (hc431 : tA1 = tB1)
                        refine Go.iload D (pc' := 436) at_434 rfl rfl ?_
                        refine Go.iconst D (pc' := 437) at_436 rfl (v := (1 : Int32)) rfl ?_
                        refine Go.icmp D (pc' := 447) (pc2 := 440) at_437 (by decide) (by decide) rfl ?_ ?_
                        · intro (hc437 : la = (1 : Int32))
                          refine Go.iconst D (pc' := 448) at_447 rfl (v := (1 : Int32)) rfl ?_
                          refine Go.goto D (pc' := 452) at_448 (by decide) (by decide) ?_
                          exact J452 (1 : Int32) (Or.inl ⟨rfl, (ch1_eq hla hlb).mpr ⟨hc424, hc431, Or.inl hc437⟩⟩)
                        · intro (hc437 : ¬ la = (1 : Int32))
                          refine Go.iload D (pc' := 442) at_440 rfl rfl ?_
                          refine Go.iload D (pc' := 444) at_442 rfl rfl ?_
                          refine Go.icmp D (pc' := 451) (pc2 := 447) at_444 (by decide) (by decide) rfl ?_ ?_
                          · intro (hc444 : ¬ tA2 = tB2)
                            refine Go.iconst D (pc' := 452) at_451 rfl (v := (0 : Int32)) rfl ?_
                            exact J452 (0 : Int32) (Or.inr ⟨rfl, fun e => ((ch1_eq hla hlb).mp e).2.2.elim hc437 hc444⟩)
                          · intro (hc444 : tA2 = tB2)
                            refine Go.iconst D (pc' := 448) at_447 rfl (v := (1 : Int32)) rfl ?_
                            refine Go.goto D (pc' := 452) at_448 (by decide) (by decide) ?_
                            exact J452 (1 : Int32) (Or.inl ⟨rfl, (ch1_eq hla hlb).mpr ⟨hc424, hc431, Or.inr hc444⟩⟩)
                  refine Go.icmp D (pc' := 284) (pc2 := 277) at_274 (by decide) (by decide) rfl ?_ ?_
                  · intro (hc274 : ¬ m2 = (6 : Int32))
                    refine Go.iload D (pc' := 286) at_284 rfl rfl ?_
                    exact J286 ld hld
                  · intro (hc274 : m2 = (6 : Int32))
                    refine Go.iconst D (pc' := 278) at_277 rfl (v := (3 : Int32)) rfl ?_
                    refine Go.iload D (pc' := 280) at_278 rfl rfl ?_
                    refine Go.isub D (pc' := 281) at_280 rfl  ?_
                    refine Go.goto D (pc' := 286) at_281 (by decide) (by decide) ?_
                    exact J286 ((3 : Int32) - ld) (l12_sub hld)
                refine Go.icmp D (pc' := 266) (pc2 := 256) at_253 (by decide) (by decide) rfl ?_ ?_
                · intro (hc253 : ¬ m2 = (5 : Int32))
                  refine Go.iload D (pc' := 268) at_266 rfl rfl ?_
                  exact J268 d2 hd2
                · intro (hc253 : m2 = (5 : Int32))
                  refine Go.iload D (pc' := 258) at_256 rfl rfl ?_
                  refine Go.iconst D (pc' := 259) at_258 rfl (v := (1 : Int32)) rfl ?_
                  refine Go.ixor D (pc' := 260) at_259 rfl  ?_
                  refine Go.callS D (argsL := [(.int (d2 ^^^ (1 : Int32)))]) (rest := []) (pc' := 263) (ce' := 0) (sl' := 0) (con_idc l Z a0 hw h0 n0 none (d2 ^^^ (1 : Int32))) (hw _ (List.mem_of_getElem? (i := 0) rfl)) (hw _ (List.mem_of_getElem? (i := 1) rfl)) (hw _ (List.mem_of_getElem? (i := 2) rfl)) (hw _ (List.mem_of_getElem? (i := 3) rfl)) (by decide) at_260 rfl pd1 rfl rfl rfl (by decide) (W := 0) rfl (by decide) (by decide) (by decide) (by decide) (by decide) ?_
                  intro v260 h260 σ260 q260
                  obtain ⟨rfl, rfl, n2, rfl, hn2⟩ := q260
                  show Go κ none h0 0 0 263 #[.val (.int i0), .val (.int i1), .val (.int i2), .val (.int i3), .val (.int i4), .val (.int i5), .val (.int ia), .val (.int ib), .val (.int la), .val (.int fa), .val (.int fb), .val (.int lf), .val (.int d1), .val (.int d2), .val (.int ld), .val (.int m1), .val (.int m2), .val (.int m3), .val (.int ja), .val (.int jb), .val (.int lb), .val (.int ga), .val (.int gc), .val (.int lg), .val (.int e1), .unset, .unset, .unset, .unset, .unset, .unset, .unset, .unset, .unset, .unset, .unset, .unset, .unset, .unset, .unset, .unset, .unset, .unset, .unset] [(.int n2)]
                  refine Go.goto D (pc' := 268) at_263 (by decide) (by decide) ?_
                  exact J268 n2 (hn2)
              refine Go.icmp D (pc' := 246) (pc2 := 236) at_233 (by decide) (by decide) rfl ?_ ?_
              · intro (hc233 : ¬ m2 = (4 : Int32))
                refine Go.iload D (pc' := 248) at_246 rfl rfl ?_
                exact J248 d1 hd1
              · intro (hc233 : m2 = (4 : Int32))
                refine Go.iload D (pc' := 238) at_236 rfl rfl ?_
                refine Go.iconst D (pc' := 239) at_238 rfl (v := (1 : Int32)) rfl ?_
                refine Go.ixor D (pc' := 240) at_239 rfl  ?_
                refine Go.callS D (argsL := [(.int (d1 ^^^ (1 : Int32)))]) (rest := []) (pc' := 243) (ce' := 0) (sl' := 0) (con_idc l Z a0 hw h0 n0 none (d1 ^^^ (1 : Int32))) (hw _ (List.mem_of_getElem? (i := 0) rfl)) (hw _ (List.mem_of_getElem? (i := 1) rfl)) (hw _ (List.mem_of_getElem? (i := 2) rfl)) (hw _ (List.mem_of_getElem? (i := 3) rfl)) (by decide) at_240 rfl pd1 rfl rfl rfl (by decide) (W := 0) rfl (by decide) (by decide) (by decide) (by decide) (by decide) ?_
                intro v240 h240 σ240 q240
                obtain ⟨rfl, rfl, n1, rfl, hn1⟩ := q240
                show Go κ none h0 0 0 243 #[.val (.int i0), .val (.int i1), .val (.int i2), .val (.int i3), .val (.int i4), .val (.int i5), .val (.int ia), .val (.int ib), .val (.int la), .val (.int fa), .val (.int fb), .val (.int lf), .val (.int d1), .val (.int d2), .val (.int ld), .val (.int m1), .val (.int m2), .val (.int m3), .val (.int ja), .val (.int jb), .val (.int lb), .val (.int ga), .val (.int gc), .val (.int lg), .unset, .unset, .unset, .unset, .unset, .unset, .unset, .unset, .unset, .unset, .unset, .unset, .unset, .unset, .unset, .unset, .unset, .unset, .unset, .unset] [(.int n1)]
                refine Go.goto D (pc' := 248) at_243 (by decide) (by decide) ?_
                exact J248 n1 (hn1)
            refine Go.icmp D (pc' := 226) (pc2 := 219) at_216 (by decide) (by decide) rfl ?_ ?_
            · intro (hc216 : ¬ m3 = (6 : Int32))
              refine Go.iload D (pc' := 228) at_226 rfl rfl ?_
              exact J228 lf hlf
            · intro (hc216 : m3 = (6 : Int32))
              refine Go.iconst D (pc' := 220) at_219 rfl (v := (3 : Int32)) rfl ?_
              refine Go.iload D (pc' := 222) at_220 rfl rfl ?_
              refine Go.isub D (pc' := 223) at_222 rfl  ?_
              refine Go.goto D (pc' := 228) at_223 (by decide) (by decide) ?_
              exact J228 ((3 : Int32) - lf) (l12_sub hlf)
          refine Go.icmp D (pc' := 208) (pc2 := 198) at_195 (by decide) (by decide) rfl ?_ ?_
          · intro (hc195 : ¬ m3 = (5 : Int32))
            refine Go.iload D (pc' := 210) at_208 rfl rfl ?_
            exact J210 fb hfb
          · intro (hc195 : m3 = (5 : Int32))
            refine Go.iload D (pc' := 200) at_198 rfl rfl ?_
            refine Go.iconst D (pc' := 201) at_200 rfl (v := (1 : Int32)) rfl ?_
            refine Go.iadd D (pc' := 202) at_201 rfl  ?_
            refine Go.bipush D (pc' := 204) at_202 rfl (v := (65 : Int32)) rfl ?_
            refine Go.irem D (pc' := 205) at_204 rfl (by decide) ?_
            refine Go.goto D (pc' := 210) at_205 (by decide) (by decide) ?_
            exact J210 ((fb + (1 : Int32)) % (65 : Int32)) (k65_succ hfb)
        refine Go.icmp D (pc' := 188) (pc2 := 178) at_175 (by decide) (by decide) rfl ?_ ?_
        · intro (hc175 : ¬ m3 = (4 : Int32))
          refine Go.iload D (pc' := 190) at_188 rfl rfl ?_
          exact J190 fa hfa
        · intro (hc175 : m3 = (4 : Int32))
          refine Go.iload D (pc' := 180) at_178 rfl rfl ?_
          refine Go.iconst D (pc' := 181) at_180 rfl (v := (1 : Int32)) rfl ?_
          refine Go.iadd D (pc' := 182) at_181 rfl  ?_
          refine Go.bipush D (pc' := 184) at_182 rfl (v := (65 : Int32)) rfl ?_
          refine Go.irem D (pc' := 185) at_184 rfl (by decide) ?_
          refine Go.goto D (pc' := 190) at_185 (by decide) (by decide) ?_
          exact J190 ((fa + (1 : Int32)) % (65 : Int32)) (k65_succ hfa)
      refine Go.icmp D (pc' := 168) (pc2 := 161) at_158 (by decide) (by decide) rfl ?_ ?_
      · intro (hc158 : ¬ m1 = (6 : Int32))
        refine Go.iload D (pc' := 170) at_168 rfl rfl ?_
        exact J170 la hla
      · intro (hc158 : m1 = (6 : Int32))
        refine Go.iconst D (pc' := 162) at_161 rfl (v := (3 : Int32)) rfl ?_
        refine Go.iload D (pc' := 164) at_162 rfl rfl ?_
        refine Go.isub D (pc' := 165) at_164 rfl  ?_
        refine Go.goto D (pc' := 170) at_165 (by decide) (by decide) ?_
        exact J170 ((3 : Int32) - la) (l12_sub hla)
    refine Go.icmp D (pc' := 150) (pc2 := 140) at_137 (by decide) (by decide) rfl ?_ ?_
    · intro (hc137 : ¬ m1 = (5 : Int32))
      refine Go.iload D (pc' := 152) at_150 rfl rfl ?_
      exact J152 ib hib
    · intro (hc137 : m1 = (5 : Int32))
      refine Go.iload D (pc' := 142) at_140 rfl rfl ?_
      refine Go.iconst D (pc' := 143) at_142 rfl (v := (1 : Int32)) rfl ?_
      refine Go.iadd D (pc' := 144) at_143 rfl  ?_
      refine Go.bipush D (pc' := 146) at_144 rfl (v := (65 : Int32)) rfl ?_
      refine Go.irem D (pc' := 147) at_146 rfl (by decide) ?_
      refine Go.goto D (pc' := 152) at_147 (by decide) (by decide) ?_
      exact J152 ((ib + (1 : Int32)) % (65 : Int32)) (k65_succ hib)
  refine Go.icmp D (pc' := 130) (pc2 := 120) at_117 (by decide) (by decide) rfl ?_ ?_
  · intro (hc117 : ¬ m1 = (4 : Int32))
    refine Go.iload D (pc' := 132) at_130 rfl rfl ?_
    exact J132 ia hia
  · intro (hc117 : m1 = (4 : Int32))
    refine Go.iload D (pc' := 122) at_120 rfl rfl ?_
    refine Go.iconst D (pc' := 123) at_122 rfl (v := (1 : Int32)) rfl ?_
    refine Go.iadd D (pc' := 124) at_123 rfl  ?_
    refine Go.bipush D (pc' := 126) at_124 rfl (v := (65 : Int32)) rfl ?_
    refine Go.irem D (pc' := 127) at_126 rfl (by decide) ?_
    refine Go.goto D (pc' := 132) at_127 (by decide) (by decide) ?_
    exact J132 ((ia + (1 : Int32)) % (65 : Int32)) (k65_succ hia)
set_option maxRecDepth 65536 in
set_option maxHeartbeats 40000000 in
theorem comes_1 {Post : Tables → Env → Array Value → State → Outcome → State → Prop} (hpost : ∀ tb e args s v u, (limb_1_1.after args s (.returned v) u = true ∧ limb_1_2.after args s (.returned v) u = true ∧ True) → Jvm.D.FramedW s (.returned v) u (Jvm.fieldLocs frame_1_writes args s ++ Jvm.arrayLocs frame_1_arrays args s ++ Jvm.staticLocs frame_1_statics s) 72 3328 → Post tb e args s (.returned v) u) :
    ArmFor flags0 classFile x code maxLocals ret World_1 tables_1 room_1 Calls_1 rest_1 Pre_1 Post := by
  intro l hfl _ _ p e ha hc hk s m args below hf hA hF happ hP
  obtain ⟨hcalls, hrest, hpre⟩ := hP
  obtain ⟨-, -, -, hnamed, -, -, -, hat⟩ := (Spec.applies_iff hf).mp happ
  obtain ⟨hg, hn⟩ := and_e (Cond.before_iff.mp (show (Jvm.Cond.and given_1 narrow_1).before args s = true from hpre))
  obtain ⟨h1, k0⟩ := and_e hg
  obtain ⟨j0, k1⟩ := and_e k0
  obtain ⟨j1, k2⟩ := and_e k1
  obtain ⟨j2, k3⟩ := and_e k2
  obtain ⟨j3, k4⟩ := and_e k3
  obtain ⟨j4, k5⟩ := and_e k4
  obtain ⟨w0, w1, w2, w3, w4, w5, rfl⟩ : ∃ w0 w1 w2 w3 w4 w5 : Value, args = #[w0, w1, w2, w3, w4, w5] := by
    have hs : args.size = 6 := by simpa [Cond.value, given_1] using h1
    obtain ⟨L⟩ := args
    match L, hs with
    | [w0, w1, w2, w3, w4, w5], _ => exact ⟨w0, w1, w2, w3, w4, w5, rfl⟩
  have hw := fun d (hd : d ∈ tables_1) => atoms_spec (ws := Jvm.Cond.code x code maxLocals ret :: tables_1) hat d (List.mem_cons_of_mem _ hd)
  obtain ⟨i0, e0⟩ := is_v j0
  obtain rfl : w0 = (.int i0) := Option.some.inj e0
  obtain ⟨i1, e1⟩ := is_v j1
  obtain rfl : w1 = (.int i1) := Option.some.inj e1
  obtain ⟨i2, e2⟩ := is_v j2
  obtain rfl : w2 = (.int i2) := Option.some.inj e2
  obtain ⟨i3, e3⟩ := is_v j3
  obtain rfl : w3 = (.int i3) := Option.some.inj e3
  obtain ⟨i4, e4⟩ := is_v j4
  obtain rfl : w4 = (.int i4) := Option.some.inj e4
  obtain ⟨i5, e5⟩ := is_v k5
  obtain rfl : w5 = (.int i5) := Option.some.inj e5
  obtain ⟨hsets, hown0⟩ := atoms_of _ (rest_1_c_eq ▸ (show rest_1_c.before _ s = true from hrest))
  have n3 := not_v (Cond.before_iff.mp (hsets _ (List.mem_of_getElem? (i := 2) rfl)))
  obtain ⟨i77, e77⟩ := is_v (Cond.before_iff.mp (hsets _ (List.mem_of_getElem? (i := 1) rfl)))
  have S8 : Sta s s.heap "java/lang/String" "COMPACT_STRINGS" "Z" (.int i77) := Sta.start e77 (Or.inl (hsets _ (List.mem_of_getElem? (i := 0) rfl)))
  have c13 : ¬ (i77 = (0 : Int32)) := gotF (Cond.eq_ints e77 (Term.int_eval (0))) n3
  have hcw : Jvm.Lit.compactW.before _ s = true := hsets _ (List.mem_of_getElem? (i := 2) rfl)

  obtain ⟨v9, e10, r11⟩ := isR_v (Cond.before_iff.mp (hsets _ (List.mem_of_getElem? (i := 8) rfl)))
  have S12 : Sta s s.heap "jdk/internal/util/Preconditions" "SIOOBE_FORMATTER" "Ljava/util/function/BiFunction;" v9 := Sta.start e10 (Or.inl (hsets _ (List.mem_of_getElem? (i := 7) rfl)))
  obtain ⟨u8, eu⟩ := exa_v (Cond.before_iff.mp (hsets _ (List.mem_of_getElem? (i := 14) rfl)))
  obtain ⟨y9, ey, ez⟩ := Cond.eq_one (hsets _ (List.mem_of_getElem? (i := 13) rfl))
  obtain rfl : y9 = .ref u8 := Option.some.inj (ey.symm.trans eu)
  have U1 := Sta.start eu (Or.inl (hsets _ (List.mem_of_getElem? (i := 10) rfl)))
  have U2 := Sta.start ez (Or.inl (hsets _ (List.mem_of_getElem? (i := 12) rfl)))
  have AD : Sta s s.heap "java/lang/StringUTF16" "$assertionsDisabled" "Z" (.int 1) := Sta.start (Cond.eq_int (hsets _ (List.mem_of_getElem? (i := 21) rfl)) (Term.int_eval (1))) (Or.inl (hsets _ (List.mem_of_getElem? (i := 20) rfl)))
  have HI : Sta s s.heap "java/lang/StringUTF16" "HI_BYTE_SHIFT" "I" (.int 0) := Sta.start (Cond.eq_int (hsets _ (List.mem_of_getElem? (i := 24) rfl)) (Term.int_eval (0))) (Or.inl (hsets _ (List.mem_of_getElem? (i := 23) rfl)))
  have LO : Sta s s.heap "java/lang/StringUTF16" "LO_BYTE_SHIFT" "I" (.int 8) := Sta.start (Cond.eq_int (hsets _ (List.mem_of_getElem? (i := 27) rfl)) (Term.int_eval (8))) (Or.inl (hsets _ (List.mem_of_getElem? (i := 26) rfl)))
  obtain ⟨n, o, g1, g2, g3, _, L, τ, rfl, ⟨N, -, -, rfl⟩, hq⟩ := con_law l s _ hw s.heap s.heap.size (Nat.le_refl _) i77 c13 S8 v9 r11 S12 u8 U1 U2 AD HI LO i0 i1 i2 i3 i4 i5 p e ha hc hk s m _ below hf ((Spec.applies_iff_loose hf).mp happ).1 ⟨rfl, State.Warmed39.refl s, rfl, trivial, Old.start s⟩ trivial
  refine ⟨n, _, g1, g2, g3, hpost _ _ _ _ _ _ ⟨Cond.after_iff.mpr rfl, Cond.after_iff.mpr (eq_i res_at (Term.int_eval (1)) rfl), trivial⟩ ⟨hq.1, hq.2.1, hq.2.2.1, (hq.2.2.2.sift fun y hy => Or.inr (N y hy)).mono (by decide) (by decide)⟩⟩
theorem main_1_1 : Claimed_1_1 := comes_1 fun _ _ _ _ _ _ h hF => ⟨h.1, hF⟩
theorem main_1_2 : Claimed_1_2 := comes_1 fun _ _ _ _ _ _ h hF => ⟨h.2.1, hF⟩

end Jvm.Pilot.@@N@@
namespace Jvm.Pilot.@@N@@
open Jvm Jvm.ClassFile Sem Op Lib Jvm.Free Jvm.Stand Jvm.Pilot.@@N@@.Jvm.D
/-! MADE BY PROGRAM (witnessworld.py) out of the Statement's table words and the real class files: 32 classes; the members and pool entries that the words name. The judged class is class 1, her method 4. -/
namespace start1
open Jvm.ClassFile
def u (s : String) : CpInfo := .utf8 (stringToUtf16 s)
/-- a pool by its gaps: so many unusable entries, then the entry; so many at the end -/
def gap : Nat → List CpInfo → List CpInfo
  | 0, r => r
  | n + 1, r => .unusable :: gap n r
def poolList (es : List (Nat × CpInfo)) (last : Nat) : List CpInfo := es.foldr (fun e r => gap e.1 (e.2 :: r)) (gap last [])
def pool (es : List (Nat × CpInfo)) (last : Nat) : Array CpInfo := ⟨poolList es last⟩
def fileOf (pool : Array CpInfo) (this : Nat) (attrs : Array Attribute := #[]) (ms : Array MethodInfo := #[]) (fl : Nat := 33) (sup : Nat := 0) (ifs : Array Nat := #[]) (fds : Array FieldInfo := #[]) : ClassFile where
  minorVersion := 0
  majorVersion := 65
  constantPool := pool
  accessFlags := fl
  thisClass := this
  superClass := sup
  interfaces := ifs
  fields := fds
  methods := ms
  attributes := attrs
def plain (name : String) (sup : Option ClassId) : Class where
  name := name
  kind := .ordinary
  loader := none
  accessFlags := 33
  super := sup
  interfaces := #[]
  cf := none
  fields := #[]
  methods := #[]
  instanceTypes := #[]
  staticTypes := #[]
  resolved := #[]
  callSites := []
  init := .initialized
  statics := none
  mirror := none

def pool0 : Array CpInfo := pool [(5, u "<init>"), (0, u "()V"), (1, .class_ 10), (1, u "java/lang/Object"), (85, u "clone"), (0, u "()Ljava/lang/Object;")] 26

def k0c0 : Code := { maxStack := 0, maxLocals := 1, code := object_method_1_code, exceptionTable := #[], attributes := #[] }
def k0m0 : Method := { name := "<init>", desc := "()V", sig := { parameters := [], returnType := none }, accessFlags := 1, code := some k0c0 }
def k0m1 : Method := { name := "clone", desc := "()Ljava/lang/Object;", sig := { parameters := [], returnType := some (.object "java/lang/Object") }, accessFlags := 260, code := none }
/-- java/lang/Object -/
def k0 : Class := { plain "java/lang/Object" none with
  accessFlags := 33
  interfaces := #[]
  cf := some (fileOf pool0 8 #[] #[{ accessFlags := 1, nameIndex := 5, descriptorIndex := 6, attributes := #[] }, { accessFlags := 260, nameIndex := 96, descriptorIndex := 97, attributes := #[] }] 33 0 #[] #[])
  fields := #[]
  methods := #[k0m0, k0m1]
  instanceTypes := #[]
  staticTypes := #[]
  resolved := Array.replicate 124 none
  statics := none }

def pool1 : Array CpInfo := pool [(2, .class_ 4), (1, u "java/lang/Object"), (0, u "<init>"), (0, u "()V"), (0, .integer 65535), (0, .integer 55296), (0, .integer 57343), (0, .class_ 11), (0, u "java/lang/String"), (0, .methodref 10 13), (0, .nameAndType 5 14), (0, u "([C)V"), (0, .methodref 16 17), (0, .class_ 18), (0, .nameAndType 19 20), (0, u "com/example/ticks_into_totals/ticksintototals/CounterNameEqualsPinLaw"), (0, u "idc"), (0, u "(I)C"), (0, .methodref 16 22), (0, .nameAndType 23 20), (0, u "tok"), (0, .methodref 16 25), (0, .nameAndType 26 27), (0, u "mk"), (0, u "(CCI)Ljava/lang/String;"), (0, .class_ 29), (0, u "com/example/ticks_into_totals/ticksintototals/CounterName"), (0, .methodref 28 31), (0, .nameAndType 5 32), (0, u "(Ljava/lang/String;Ljava/lang/String;Ljava/lang/String;)V"), (0, .methodref 28 34), (0, .nameAndType 35 36), (0, u "equals"), (0, u "(Ljava/lang/Object;)Z"), (3, u "law"), (0, u "(IIIIII)Z")] 2

def k1m0 : Method := { name := "<init>", desc := "()V", sig := { parameters := [], returnType := none }, accessFlags := 1, code := none }
def k1c1 : Code := { maxStack := 3, maxLocals := 1, code := method_2_code, exceptionTable := #[], attributes := #[] }
def k1m1 : Method := { name := "tok", desc := "(I)C", sig := { parameters := [.int], returnType := some .char }, accessFlags := 10, code := some k1c1 }
def k1c2 : Code := { maxStack := 2, maxLocals := 2, code := method_3_code, exceptionTable := #[], attributes := #[] }
def k1m2 : Method := { name := "idc", desc := "(I)C", sig := { parameters := [.int], returnType := some .char }, accessFlags := 10, code := some k1c2 }
def k1c3 : Code := { maxStack := 6, maxLocals := 3, code := method_4_code, exceptionTable := #[], attributes := #[] }
def k1m3 : Method := { name := "mk", desc := "(CCI)Ljava/lang/String;", sig := { parameters := [.char, .char, .int], returnType := some (.object "java/lang/String") }, accessFlags := 10, code := some k1c3 }
def k1c4 : Code := { maxStack := 7, maxLocals := 44, code := code, exceptionTable := #[], attributes := #[] }
def k1m4 : Method := { name := "law", desc := "(IIIIII)Z", sig := { parameters := [.int, .int, .int, .int, .int, .int], returnType := some .boolean }, accessFlags := 9, code := some k1c4 }
/-- com/example/ticks_into_totals/ticksintototals/CounterNameEqualsPinLaw -/
def k1 : Class := { plain "com/example/ticks_into_totals/ticksintototals/CounterNameEqualsPinLaw" (some 0) with
  accessFlags := 49
  interfaces := #[]
  cf := some (fileOf pool1 16 #[] #[{ accessFlags := 1, nameIndex := 5, descriptorIndex := 6, attributes := #[] }, { accessFlags := 10, nameIndex := 23, descriptorIndex := 20, attributes := #[] }, { accessFlags := 10, nameIndex := 19, descriptorIndex := 20, attributes := #[] }, { accessFlags := 10, nameIndex := 26, descriptorIndex := 27, attributes := #[] }, { accessFlags := 9, nameIndex := 40, descriptorIndex := 41, attributes := #[] }] 49 2 #[] #[])
  fields := #[]
  methods := #[k1m0, k1m1, k1m2, k1m3, k1m4]
  instanceTypes := #[]
  staticTypes := #[]
  resolved := Array.replicate 44 none
  statics := none }

def pool2 : Array CpInfo := pool [(1, .class_ 2), (0, u "java/io/Serializable"), (0, .class_ 4), (0, u "java/lang/Object")] 2

/-- java/io/Serializable -/
def k2 : Class := { plain "java/io/Serializable" (some 0) with
  accessFlags := 1537
  interfaces := #[]
  cf := some (fileOf pool2 1 #[] #[] 1537 3 #[] #[])
  fields := #[]
  methods := #[]
  instanceTypes := #[]
  staticTypes := #[]
  resolved := Array.replicate 7 none
  statics := none }

def pool3 : Array CpInfo := pool [(1, .class_ 2), (0, u "java/lang/Comparable"), (0, .class_ 4), (0, u "java/lang/Object")] 7

/-- java/lang/Comparable -/
def k3 : Class := { plain "java/lang/Comparable" (some 0) with
  accessFlags := 1537
  interfaces := #[]
  cf := some (fileOf pool3 1 #[] #[] 1537 3 #[] #[])
  fields := #[]
  methods := #[]
  instanceTypes := #[]
  staticTypes := #[]
  resolved := Array.replicate 12 none
  statics := none }

def pool4 : Array CpInfo := pool [(2, .class_ 4), (1, u "java/lang/CharSequence"), (42, .class_ 48), (0, u "java/lang/CharSequence$1CodePointIterator"), (10, .class_ 60), (0, u "java/lang/CharSequence$1CharIterator"), (5, .class_ 67), (0, u "java/lang/Object")] 63

/-- java/lang/CharSequence -/
def k4 : Class := { plain "java/lang/CharSequence" (some 0) with
  accessFlags := 1537
  interfaces := #[]
  cf := some (fileOf pool4 2 #[.nestMembers #[47, 59]] #[] 1537 66 #[] #[])
  fields := #[]
  methods := #[]
  instanceTypes := #[]
  staticTypes := #[]
  resolved := Array.replicate 131 none
  statics := none }

def pool5 : Array CpInfo := pool [(1, .class_ 2), (0, u "java/lang/constant/Constable"), (0, .class_ 4), (0, u "java/lang/Object")] 6

/-- java/lang/constant/Constable -/
def k5 : Class := { plain "java/lang/constant/Constable" (some 0) with
  accessFlags := 1537
  interfaces := #[]
  cf := some (fileOf pool5 1 #[] #[] 1537 3 #[] #[])
  fields := #[]
  methods := #[]
  instanceTypes := #[]
  staticTypes := #[]
  resolved := Array.replicate 11 none
  statics := none }

def pool6 : Array CpInfo := pool [(1, .class_ 2), (0, u "java/lang/constant/ConstantDesc"), (0, .class_ 4), (0, u "java/lang/Object")] 32

/-- java/lang/constant/ConstantDesc -/
def k6 : Class := { plain "java/lang/constant/ConstantDesc" (some 0) with
  accessFlags := 1537
  interfaces := #[]
  cf := some (fileOf pool6 1 #[] #[] 1537 3 #[] #[])
  fields := #[]
  methods := #[]
  instanceTypes := #[]
  staticTypes := #[]
  resolved := Array.replicate 37 none
  statics := none }

def pool7 : Array CpInfo := pool [(1, .methodref 2 3), (0, .class_ 4), (0, .nameAndType 5 6), (0, u "java/lang/Object"), (0, u "<init>"), (0, u "()V"), (2, .fieldref 10 11), (0, .class_ 12), (0, .nameAndType 13 14), (0, u "java/lang/String"), (0, u "value"), (0, u "[B"), (0, .fieldref 10 16), (0, .nameAndType 17 18), (0, u "coder"), (0, u "B"), (2, u "hash"), (0, u "I"), (2, u "hashIsZero"), (0, u "Z"), (0, .methodref 10 28), (0, .nameAndType 5 29), (0, u "([CIILjava/lang/Void;)V"), (8, .fieldref 10 39), (0, .nameAndType 40 26), (0, u "COMPACT_STRINGS"), (1, .class_ 44), (1, u "java/lang/StringUTF16"), (0, u "compress"), (1, .methodref 42 48), (0, .nameAndType 49 50), (0, u "coderFromArrayLen"), (0, u "([BI)B"), (4, .class_ 57), (1, u "java/util/Arrays"), (2, .methodref 42 61), (0, .nameAndType 62 63), (0, u "newBytesFor"), (0, u "(I)[B"), (22, .fieldref 87 88), (0, .class_ 89), (0, .nameAndType 90 91), (0, u "sun/nio/cs/UTF_8"), (0, u "INSTANCE"), (0, u "Lsun/nio/cs/UTF_8;"), (1, .class_ 95), (1, u "java/lang/StringCoding"), (1, u "([BII)I"), (4, .methodref 55 103), (0, .nameAndType 104 105), (0, u "copyOf"), (0, u "([BI)[B"), (1, .class_ 109), (1, u "java/lang/StringLatin1"), (18, .methodref 93 129), (0, .nameAndType 130 131), (0, u "hasNegatives"), (0, u "([BII)Z"), (10, u "()Z"), (34, .methodref 42 178), (0, .nameAndType 45 179), (0, u "([CII)[B"), (72, .methodref 10 253), (0, .nameAndType 254 255), (0, u "encodeUTF8"), (0, u "(B[BZ)[B"), (23, .methodref 280 281), (0, .class_ 14), (0, .nameAndType 282 283), (0, u "clone"), (0, u "()Ljava/lang/Object;"), (33, u "encode"), (16, u "()I"), (0, .methodref 10 336), (0, .nameAndType 17 337), (0, u "()B"), (22, .methodref 42 361), (0, .nameAndType 362 363), (0, u "getChar"), (0, u "([BI)C"), (1, .class_ 367), (1, u "java/lang/Character"), (1, u "(C)Z"), (21, u "(II)V"), (12, .methodref 365 405), (0, .nameAndType 406 369), (0, u "isSurrogate"), (20, u "(I)C"), (45, .methodref 10 474), (0, .nameAndType 475 476), (0, u "encodeUTF8_UTF16"), (0, u "([BZ)[B"), (15, .methodref 10 493), (0, .nameAndType 494 142), (0, u "isLatin1"), (0, .methodref 107 496), (0, .nameAndType 497 363), (0, u "charAt"), (0, .methodref 42 496), (0, .methodref 10 500), (0, .nameAndType 501 391), (0, u "checkIndex"), (0, .methodref 42 503), (0, .nameAndType 504 97), (0, u "codePointAt"), (2, u "length"), (24, u "getBytes"), (2, .methodref 10 536), (0, .nameAndType 317 537), (0, u "(Ljava/nio/charset/Charset;B[B)[B"), (3, .methodref 107 542), (0, .nameAndType 543 544), (0, u "equals"), (0, u "([B[B)Z"), (28, u "(Ljava/lang/Object;)Z"), (1, .class_ 576), (0, u "java/lang/CharSequence"), (22, u "CASE_INSENSITIVE_ORDER"), (0, u "Ljava/util/Comparator;"), (91, u "isEmpty"), (72, u "(I)I"), (244, u "([C)V"), (42, .fieldref 1054 1055), (0, .class_ 1056), (0, .nameAndType 1057 1058), (0, u "jdk/internal/util/Preconditions"), (0, u "SIOOBE_FORMATTER"), (0, u "Ljava/util/function/BiFunction;"), (0, .methodref 1054 1060), (0, .nameAndType 501 1061), (0, u "(IILjava/util/function/BiFunction;)I"), (39, u "serialPersistentFields"), (0, u "[Ljava/io/ObjectStreamField;"), (0, .class_ 1104), (0, u "java/lang/String$CaseInsensitiveComparator"), (1, .class_ 1107), (0, u "java/io/Serializable"), (0, .class_ 1109), (0, u "java/lang/Comparable"), (0, .class_ 1111), (0, u "java/lang/constant/Constable"), (0, .class_ 1113), (0, u "java/lang/constant/ConstantDesc"), (2, u "serialVersionUID"), (0, u "J"), (3, u "REPL"), (0, u "C"), (2, u "LATIN1"), (1, u "UTF16"), (117, u "(Ljava/nio/charset/Charset;)[B")] 205

def k7m0 : Method := { name := "<init>", desc := "()V", sig := { parameters := [], returnType := none }, accessFlags := 1, code := none }
def k7c1 : Code := { maxStack := 5, maxLocals := 2, code := jdk_42_method_3_code, exceptionTable := #[], attributes := #[] }
def k7m1 : Method := { name := "<init>", desc := "([C)V", sig := { parameters := [(.array .char)], returnType := none }, accessFlags := 1, code := some k7c1 }
def k7c2 : Code := { maxStack := 4, maxLocals := 3, code := jdk_42_method_18_code, exceptionTable := #[], attributes := #[] }
def k7m2 : Method := { name := "encode", desc := "(Ljava/nio/charset/Charset;B[B)[B", sig := { parameters := [(.object "java/nio/charset/Charset"), .byte, (.array .byte)], returnType := some (.array .byte) }, accessFlags := 10, code := some k7c2 }
def k7c3 : Code := { maxStack := 5, maxLocals := 9, code := jdk_42_method_46_code, exceptionTable := #[], attributes := #[] }
def k7m3 : Method := { name := "encodeUTF8", desc := "(B[BZ)[B", sig := { parameters := [.byte, (.array .byte), .boolean], returnType := some (.array .byte) }, accessFlags := 10, code := some k7c3 }
def k7c4 : Code := { maxStack := 5, maxLocals := 9, code := jdk_42_method_47_code, exceptionTable := #[], attributes := #[] }
def k7m4 : Method := { name := "encodeUTF8_UTF16", desc := "([BZ)[B", sig := { parameters := [(.array .byte), .boolean], returnType := some (.array .byte) }, accessFlags := 10, code := some k7c4 }
def k7c5 : Code := { maxStack := 2, maxLocals := 1, code := jdk_42_method_54_code, exceptionTable := #[], attributes := #[] }
def k7m5 : Method := { name := "length", desc := "()I", sig := { parameters := [], returnType := some .int }, accessFlags := 1, code := some k7c5 }
def k7c6 : Code := { maxStack := 1, maxLocals := 1, code := jdk_42_method_55_code, exceptionTable := #[], attributes := #[] }
def k7m6 : Method := { name := "isEmpty", desc := "()Z", sig := { parameters := [], returnType := some .boolean }, accessFlags := 1, code := some k7c6 }
def k7c7 : Code := { maxStack := 2, maxLocals := 2, code := jdk_42_method_56_code, exceptionTable := #[], attributes := #[] }
def k7m7 : Method := { name := "charAt", desc := "(I)C", sig := { parameters := [.int], returnType := some .char }, accessFlags := 1, code := some k7c7 }
def k7c8 : Code := { maxStack := 3, maxLocals := 3, code := jdk_42_method_57_code, exceptionTable := #[], attributes := #[] }
def k7m8 : Method := { name := "codePointAt", desc := "(I)I", sig := { parameters := [.int], returnType := some .int }, accessFlags := 1, code := some k7c8 }
def k7c9 : Code := { maxStack := 3, maxLocals := 2, code := jdk_42_method_64_code, exceptionTable := #[], attributes := #[] }
def k7m9 : Method := { name := "getBytes", desc := "(Ljava/nio/charset/Charset;)[B", sig := { parameters := [(.object "java/nio/charset/Charset")], returnType := some (.array .byte) }, accessFlags := 1, code := some k7c9 }
def k7c10 : Code := { maxStack := 2, maxLocals := 3, code := jdk_42_method_66_code, exceptionTable := #[], attributes := #[] }
def k7m10 : Method := { name := "equals", desc := "(Ljava/lang/Object;)Z", sig := { parameters := [(.object "java/lang/Object")], returnType := some .boolean }, accessFlags := 1, code := some k7c10 }
def k7c11 : Code := { maxStack := 4, maxLocals := 6, code := jdk_42_method_149_code, exceptionTable := #[], attributes := #[] }
def k7m11 : Method := { name := "<init>", desc := "([CIILjava/lang/Void;)V", sig := { parameters := [(.array .char), .int, .int, (.object "java/lang/Void")], returnType := none }, accessFlags := 2, code := some k7c11 }
def k7c12 : Code := { maxStack := 1, maxLocals := 1, code := jdk_42_method_152_code, exceptionTable := #[], attributes := #[] }
def k7m12 : Method := { name := "coder", desc := "()B", sig := { parameters := [], returnType := some .byte }, accessFlags := 0, code := some k7c12 }
def k7c13 : Code := { maxStack := 1, maxLocals := 1, code := jdk_42_method_154_code, exceptionTable := #[], attributes := #[] }
def k7m13 : Method := { name := "isLatin1", desc := "()Z", sig := { parameters := [], returnType := some .boolean }, accessFlags := 0, code := some k7c13 }
def k7c14 : Code := { maxStack := 3, maxLocals := 2, code := jdk_42_method_155_code, exceptionTable := #[], attributes := #[] }
def k7m14 : Method := { name := "checkIndex", desc := "(II)V", sig := { parameters := [.int, .int], returnType := none }, accessFlags := 8, code := some k7c14 }
/-- java/lang/String -/
def k7 : Class := { plain "java/lang/String" (some 0) with
  accessFlags := 49
  interfaces := #[2, 3, 4, 5, 6]
  cf := some (fileOf pool7 10 #[.nestMembers #[1103]] #[{ accessFlags := 1, nameIndex := 5, descriptorIndex := 6, attributes := #[] }, { accessFlags := 1, nameIndex := 5, descriptorIndex := 1010, attributes := #[] }, { accessFlags := 10, nameIndex := 317, descriptorIndex := 537, attributes := #[] }, { accessFlags := 10, nameIndex := 254, descriptorIndex := 255, attributes := #[] }, { accessFlags := 10, nameIndex := 475, descriptorIndex := 476, attributes := #[] }, { accessFlags := 1, nameIndex := 507, descriptorIndex := 334, attributes := #[] }, { accessFlags := 1, nameIndex := 692, descriptorIndex := 142, attributes := #[] }, { accessFlags := 1, nameIndex := 497, descriptorIndex := 427, attributes := #[] }, { accessFlags := 1, nameIndex := 504, descriptorIndex := 765, attributes := #[] }, { accessFlags := 1, nameIndex := 532, descriptorIndex := 1245, attributes := #[] }, { accessFlags := 1, nameIndex := 543, descriptorIndex := 573, attributes := #[] }, { accessFlags := 2, nameIndex := 5, descriptorIndex := 29, attributes := #[] }, { accessFlags := 0, nameIndex := 17, descriptorIndex := 337, attributes := #[] }, { accessFlags := 0, nameIndex := 494, descriptorIndex := 142, attributes := #[] }, { accessFlags := 8, nameIndex := 501, descriptorIndex := 391, attributes := #[] }] 49 2 #[1106, 1108, 575, 1110, 1112] #[{ accessFlags := 18, nameIndex := 13, descriptorIndex := 14, attributes := #[] }, { accessFlags := 18, nameIndex := 17, descriptorIndex := 18, attributes := #[] }, { accessFlags := 2, nameIndex := 21, descriptorIndex := 22, attributes := #[] }, { accessFlags := 2, nameIndex := 25, descriptorIndex := 26, attributes := #[] }, { accessFlags := 26, nameIndex := 1116, descriptorIndex := 1117, attributes := #[] }, { accessFlags := 24, nameIndex := 40, descriptorIndex := 26, attributes := #[] }, { accessFlags := 26, nameIndex := 1101, descriptorIndex := 1102, attributes := #[] }, { accessFlags := 26, nameIndex := 1121, descriptorIndex := 1122, attributes := #[] }, { accessFlags := 25, nameIndex := 599, descriptorIndex := 600, attributes := #[] }, { accessFlags := 24, nameIndex := 1125, descriptorIndex := 18, attributes := #[] }, { accessFlags := 24, nameIndex := 1127, descriptorIndex := 18, attributes := #[] }])
  fields := #[{ name := "value", type := (.array .byte), accessFlags := 18, slot := 0, constantValue := 0 }, { name := "coder", type := .byte, accessFlags := 18, slot := 1, constantValue := 0 }, { name := "hash", type := .int, accessFlags := 2, slot := 2, constantValue := 0 }, { name := "hashIsZero", type := .boolean, accessFlags := 2, slot := 3, constantValue := 0 }, { name := "serialVersionUID", type := .long, accessFlags := 26, slot := 0, constantValue := 0 }, { name := "COMPACT_STRINGS", type := .boolean, accessFlags := 24, slot := 1, constantValue := 0 }, { name := "serialPersistentFields", type := (.array (.object "java/io/ObjectStreamField")), accessFlags := 26, slot := 2, constantValue := 0 }, { name := "REPL", type := .char, accessFlags := 26, slot := 3, constantValue := 0 }, { name := "CASE_INSENSITIVE_ORDER", type := (.object "java/util/Comparator"), accessFlags := 25, slot := 4, constantValue := 0 }, { name := "LATIN1", type := .byte, accessFlags := 24, slot := 5, constantValue := 0 }, { name := "UTF16", type := .byte, accessFlags := 24, slot := 6, constantValue := 0 }]
  methods := #[k7m0, k7m1, k7m2, k7m3, k7m4, k7m5, k7m6, k7m7, k7m8, k7m9, k7m10, k7m11, k7m12, k7m13, k7m14]
  instanceTypes := #[(.array .byte), .byte, .int, .boolean]
  staticTypes := #[.long, .boolean, (.array (.object "java/io/ObjectStreamField")), .char, (.object "java/util/Comparator"), .byte, .byte]
  resolved := Array.replicate 1451 none
  statics := some 0 }

def pool8 : Array CpInfo := pool [(3, .class_ 4), (0, u "java/lang/String"), (1, .class_ 8), (1, u "java/lang/Object"), (0, u "<init>"), (0, u "()V"), (0, .methodref 12 13), (0, .class_ 14), (0, .nameAndType 15 16), (0, u "java/lang/StringUTF16"), (0, u "newBytesLength"), (0, u "(I)I"), (3, .integer 1073741823), (23, .fieldref 12 45), (0, .nameAndType 46 47), (0, u "$assertionsDisabled"), (0, u "Z"), (0, .methodref 12 49), (0, .nameAndType 50 51), (0, u "length"), (0, u "([B)I"), (7, .fieldref 12 60), (0, .nameAndType 61 62), (0, u "HI_BYTE_SHIFT"), (0, u "I"), (0, .fieldref 12 64), (0, .nameAndType 65 62), (0, u "LO_BYTE_SHIFT"), (1, .methodref 12 68), (0, .nameAndType 69 70), (0, u "checkIndex"), (0, u "(I[B)V"), (0, .methodref 12 72), (0, .nameAndType 73 74), (0, u "getChar"), (0, u "([BI)C"), (0, .methodref 76 77), (0, .class_ 78), (0, .nameAndType 79 80), (0, u "java/lang/Character"), (0, u "isHighSurrogate"), (0, u "(C)Z"), (7, .methodref 12 89), (0, .nameAndType 90 91), (0, u "codePointAt"), (0, u "([BIIZ)I"), (15, .methodref 12 108), (0, .nameAndType 109 110), (0, u "newBytesFor"), (0, u "(I)[B"), (0, .methodref 12 112), (0, .nameAndType 113 114), (0, u "putChar"), (0, u "([BII)V"), (0, .methodref 12 116), (0, .nameAndType 117 118), (0, u "compress"), (0, u "([CI[BII)I"), (0, .methodref 12 120), (0, .nameAndType 121 122), (0, u "toBytes"), (0, u "([CII)[B"), (127, u "([BII)I"), (10, u "coderFromArrayLen"), (0, u "([BI)B"), (106, .class_ 371), (1, u "java/lang/StringUTF16$LinesSpliterator"), (20, u "charAt"), (21, .methodref 3 415), (0, .nameAndType 69 416), (0, u "(II)V"), (13, u "MAX_LENGTH"), (196, .class_ 628), (0, u "java/lang/StringUTF16$CodePointsSpliterator"), (0, .class_ 630), (0, u "java/lang/StringUTF16$CharsSpliterator")] 4

def k8m0 : Method := { name := "<init>", desc := "()V", sig := { parameters := [], returnType := none }, accessFlags := 0, code := none }
def k8c1 : Code := { maxStack := 1, maxLocals := 1, code := jdk_52_method_2_code, exceptionTable := #[], attributes := #[] }
def k8m1 : Method := { name := "newBytesFor", desc := "(I)[B", sig := { parameters := [.int], returnType := some (.array .byte) }, accessFlags := 9, code := some k8c1 }
def k8c2 : Code := { maxStack := 4, maxLocals := 1, code := jdk_52_method_3_code, exceptionTable := #[], attributes := #[] }
def k8m2 : Method := { name := "newBytesLength", desc := "(I)I", sig := { parameters := [.int], returnType := some .int }, accessFlags := 9, code := some k8c2 }
def k8c3 : Code := { maxStack := 4, maxLocals := 3, code := jdk_52_method_4_code, exceptionTable := #[], attributes := #[] }
def k8m3 : Method := { name := "putChar", desc := "([BII)V", sig := { parameters := [(.array .byte), .int, .int], returnType := none }, accessFlags := 8, code := some k8c3 }
def k8c4 : Code := { maxStack := 3, maxLocals := 2, code := jdk_52_method_5_code, exceptionTable := #[], attributes := #[] }
def k8m4 : Method := { name := "getChar", desc := "([BI)C", sig := { parameters := [(.array .byte), .int], returnType := some .char }, accessFlags := 8, code := some k8c4 }
def k8c5 : Code := { maxStack := 2, maxLocals := 1, code := jdk_52_method_6_code, exceptionTable := #[], attributes := #[] }
def k8m5 : Method := { name := "length", desc := "([B)I", sig := { parameters := [(.array .byte)], returnType := some .int }, accessFlags := 9, code := some k8c5 }
def k8c6 : Code := { maxStack := 2, maxLocals := 6, code := jdk_52_method_7_code, exceptionTable := #[], attributes := #[] }
def k8m6 : Method := { name := "codePointAt", desc := "([BIIZ)I", sig := { parameters := [(.array .byte), .int, .int, .boolean], returnType := some .int }, accessFlags := 10, code := some k8c6 }
def k8c7 : Code := { maxStack := 4, maxLocals := 3, code := jdk_52_method_8_code, exceptionTable := #[], attributes := #[] }
def k8m7 : Method := { name := "codePointAt", desc := "([BII)I", sig := { parameters := [(.array .byte), .int, .int], returnType := some .int }, accessFlags := 9, code := some k8c7 }
def k8c8 : Code := { maxStack := 4, maxLocals := 5, code := jdk_52_method_14_code, exceptionTable := #[], attributes := #[] }
def k8m8 : Method := { name := "toBytes", desc := "([CII)[B", sig := { parameters := [(.array .char), .int, .int], returnType := some (.array .byte) }, accessFlags := 9, code := some k8c8 }
def k8c9 : Code := { maxStack := 2, maxLocals := 2, code := jdk_52_method_15_code, exceptionTable := #[], attributes := #[] }
def k8m9 : Method := { name := "coderFromArrayLen", desc := "([BI)B", sig := { parameters := [(.array .byte), .int], returnType := some .byte }, accessFlags := 8, code := some k8c9 }
def k8c10 : Code := { maxStack := 5, maxLocals := 6, code := jdk_52_method_16_code, exceptionTable := #[], attributes := #[] }
def k8m10 : Method := { name := "compress", desc := "([CII)[B", sig := { parameters := [(.array .char), .int, .int], returnType := some (.array .byte) }, accessFlags := 9, code := some k8c10 }
def k8c11 : Code := { maxStack := 3, maxLocals := 7, code := jdk_52_method_21_code, exceptionTable := #[], attributes := #[] }
def k8m11 : Method := { name := "compress", desc := "([CI[BII)I", sig := { parameters := [(.array .char), .int, (.array .byte), .int, .int], returnType := some .int }, accessFlags := 9, code := some k8c11 }
def k8c12 : Code := { maxStack := 2, maxLocals := 2, code := jdk_52_method_83_code, exceptionTable := #[], attributes := #[] }
def k8m12 : Method := { name := "charAt", desc := "([BI)C", sig := { parameters := [(.array .byte), .int], returnType := some .char }, accessFlags := 9, code := some k8c12 }
def k8c13 : Code := { maxStack := 2, maxLocals := 2, code := jdk_52_method_91_code, exceptionTable := #[], attributes := #[] }
def k8m13 : Method := { name := "checkIndex", desc := "(I[B)V", sig := { parameters := [.int, (.array .byte)], returnType := none }, accessFlags := 9, code := some k8c13 }
/-- java/lang/StringUTF16 -/
def k8 : Class := { plain "java/lang/StringUTF16" (some 0) with
  accessFlags := 48
  interfaces := #[]
  cf := some (fileOf pool8 12 #[.nestMembers #[627, 629, 369]] #[{ accessFlags := 0, nameIndex := 9, descriptorIndex := 10, attributes := #[] }, { accessFlags := 9, nameIndex := 109, descriptorIndex := 110, attributes := #[] }, { accessFlags := 9, nameIndex := 15, descriptorIndex := 16, attributes := #[] }, { accessFlags := 8, nameIndex := 113, descriptorIndex := 114, attributes := #[] }, { accessFlags := 8, nameIndex := 73, descriptorIndex := 74, attributes := #[] }, { accessFlags := 9, nameIndex := 50, descriptorIndex := 51, attributes := #[] }, { accessFlags := 10, nameIndex := 90, descriptorIndex := 91, attributes := #[] }, { accessFlags := 9, nameIndex := 90, descriptorIndex := 250, attributes := #[] }, { accessFlags := 9, nameIndex := 121, descriptorIndex := 122, attributes := #[] }, { accessFlags := 8, nameIndex := 261, descriptorIndex := 262, attributes := #[] }, { accessFlags := 9, nameIndex := 117, descriptorIndex := 122, attributes := #[] }, { accessFlags := 9, nameIndex := 117, descriptorIndex := 118, attributes := #[] }, { accessFlags := 9, nameIndex := 392, descriptorIndex := 74, attributes := #[] }, { accessFlags := 9, nameIndex := 69, descriptorIndex := 70, attributes := #[] }] 48 6 #[] #[{ accessFlags := 26, nameIndex := 61, descriptorIndex := 62, attributes := #[] }, { accessFlags := 26, nameIndex := 65, descriptorIndex := 62, attributes := #[] }, { accessFlags := 24, nameIndex := 430, descriptorIndex := 62, attributes := #[] }, { accessFlags := 4120, nameIndex := 46, descriptorIndex := 47, attributes := #[] }])
  fields := #[{ name := "HI_BYTE_SHIFT", type := .int, accessFlags := 26, slot := 0, constantValue := 0 }, { name := "LO_BYTE_SHIFT", type := .int, accessFlags := 26, slot := 1, constantValue := 0 }, { name := "MAX_LENGTH", type := .int, accessFlags := 24, slot := 2, constantValue := 0 }, { name := "$assertionsDisabled", type := .boolean, accessFlags := 4120, slot := 3, constantValue := 0 }]
  methods := #[k8m0, k8m1, k8m2, k8m3, k8m4, k8m5, k8m6, k8m7, k8m8, k8m9, k8m10, k8m11, k8m12, k8m13]
  instanceTypes := #[]
  staticTypes := #[.int, .int, .int, .boolean]
  resolved := Array.replicate 635 none
  statics := some 1 }

def pool9 : Array CpInfo := pool [(1, .methodref 2 3), (0, .class_ 4), (0, .nameAndType 5 6), (0, u "java/lang/Object"), (0, u "<init>"), (0, u "()V"), (0, .class_ 8), (0, u "java/lang/Record")] 13

def k9c0 : Code := { maxStack := 1, maxLocals := 1, code := jdk_30_method_1_code, exceptionTable := #[], attributes := #[] }
def k9m0 : Method := { name := "<init>", desc := "()V", sig := { parameters := [], returnType := none }, accessFlags := 4, code := some k9c0 }
/-- java/lang/Record -/
def k9 : Class := { plain "java/lang/Record" (some 0) with
  accessFlags := 1057
  interfaces := #[]
  cf := some (fileOf pool9 7 #[] #[{ accessFlags := 4, nameIndex := 5, descriptorIndex := 6, attributes := #[] }] 1057 2 #[] #[])
  fields := #[]
  methods := #[k9m0]
  instanceTypes := #[]
  staticTypes := #[]
  resolved := Array.replicate 22 none
  statics := none }

def pool10 : Array CpInfo := pool [(1, .methodref 2 3), (0, .class_ 4), (0, .nameAndType 5 6), (0, u "java/lang/Record"), (0, u "<init>"), (0, u "()V"), (0, .string 8), (0, u "ns"), (0, .methodref 10 11), (0, .class_ 12), (0, .nameAndType 13 14), (0, u "com/example/ticks_into_totals/ticksintototals/CounterName"), (0, u "checkToken"), (0, u "(Ljava/lang/String;Ljava/lang/String;)Ljava/lang/String;"), (0, .methodref 10 16), (0, .nameAndType 17 18), (0, u "checkId"), (0, u "(Ljava/lang/String;)Ljava/lang/String;"), (0, .string 20), (0, u "field"), (0, .fieldref 10 22), (0, .nameAndType 8 23), (0, u "Ljava/lang/String;"), (0, .fieldref 10 25), (0, .nameAndType 26 23), (0, u "id"), (0, .fieldref 10 28), (0, .nameAndType 20 23), (0, .methodref 30 31), (0, .class_ 32), (0, .nameAndType 33 34), (0, u "java/lang/String"), (0, u "equals"), (0, u "(Ljava/lang/Object;)Z"), (3, u "()I"), (0, .methodref 40 41), (0, .class_ 42), (0, .nameAndType 43 44), (0, u "java/util/Objects"), (0, u "requireNonNull"), (0, u "(Ljava/lang/Object;Ljava/lang/String;)Ljava/lang/Object;"), (0, .methodref 30 46), (0, .nameAndType 47 48), (0, u "isEmpty"), (0, u "()Z"), (0, .methodref 30 50), (0, .nameAndType 51 38), (0, u "length"), (0, .methodref 10 53), (0, .nameAndType 54 55), (0, u "isToken"), (0, u "(Ljava/lang/String;)Z"), (19, .methodref 30 76), (0, .nameAndType 77 78), (0, u "charAt"), (0, u "(I)C"), (0, .methodref 10 80), (0, .nameAndType 81 82), (0, u "isTokenChar"), (0, u "(C)Z"), (0, .string 26), (0, .methodref 10 85), (0, .nameAndType 86 55), (0, u "pairsEverySurrogate"), (2, .fieldref 90 91), (0, .class_ 92), (0, .nameAndType 93 94), (0, u "java/nio/charset/StandardCharsets"), (0, u "UTF_8"), (0, u "Ljava/nio/charset/Charset;"), (0, .methodref 30 96), (0, .nameAndType 97 98), (0, u "getBytes"), (0, u "(Ljava/nio/charset/Charset;)[B"), (2, .methodref 10 102), (0, .nameAndType 103 55), (0, u "hasControlCharacter"), (2, .methodref 30 107), (0, .nameAndType 108 109), (0, u "codePointAt"), (0, u "(I)I"), (0, .class_ 111), (0, u "java/lang/Character"), (0, .integer 55296), (0, .integer 57343), (0, .methodref 110 115), (0, .nameAndType 116 109), (0, u "charCount"), (4, u "MAX_TOKEN_LENGTH"), (0, u "I"), (2, u "MAX_ID_BYTES"), (1, u "(Ljava/lang/String;Ljava/lang/String;Ljava/lang/String;)V")] 27

def k10c0 : Code := { maxStack := 2, maxLocals := 4, code := prog_3_method_1_code, exceptionTable := #[], attributes := #[] }
def k10m0 : Method := { name := "<init>", desc := "(Ljava/lang/String;Ljava/lang/String;Ljava/lang/String;)V", sig := { parameters := [(.object "java/lang/String"), (.object "java/lang/String"), (.object "java/lang/String")], returnType := none }, accessFlags := 1, code := some k10c0 }
def k10c1 : Code := { maxStack := 2, maxLocals := 3, code := prog_3_method_2_code, exceptionTable := #[], attributes := #[] }
def k10m1 : Method := { name := "equals", desc := "(Ljava/lang/Object;)Z", sig := { parameters := [(.object "java/lang/Object")], returnType := some .boolean }, accessFlags := 1, code := some k10c1 }
def k10c2 : Code := { maxStack := 7, maxLocals := 2, code := prog_3_method_4_code, exceptionTable := #[], attributes := #[] }
def k10m2 : Method := { name := "checkToken", desc := "(Ljava/lang/String;Ljava/lang/String;)Ljava/lang/String;", sig := { parameters := [(.object "java/lang/String"), (.object "java/lang/String")], returnType := some (.object "java/lang/String") }, accessFlags := 8, code := some k10c2 }
def k10c3 : Code := { maxStack := 2, maxLocals := 2, code := prog_3_method_5_code, exceptionTable := #[], attributes := #[] }
def k10m3 : Method := { name := "isToken", desc := "(Ljava/lang/String;)Z", sig := { parameters := [(.object "java/lang/String")], returnType := some .boolean }, accessFlags := 10, code := some k10c3 }
def k10c4 : Code := { maxStack := 2, maxLocals := 1, code := prog_3_method_6_code, exceptionTable := #[], attributes := #[] }
def k10m4 : Method := { name := "isTokenChar", desc := "(C)Z", sig := { parameters := [.char], returnType := some .boolean }, accessFlags := 10, code := some k10c4 }
def k10c5 : Code := { maxStack := 3, maxLocals := 2, code := prog_3_method_7_code, exceptionTable := #[], attributes := #[] }
def k10m5 : Method := { name := "checkId", desc := "(Ljava/lang/String;)Ljava/lang/String;", sig := { parameters := [(.object "java/lang/String")], returnType := some (.object "java/lang/String") }, accessFlags := 8, code := some k10c5 }
def k10c6 : Code := { maxStack := 2, maxLocals := 3, code := prog_3_method_8_code, exceptionTable := #[], attributes := #[] }
def k10m6 : Method := { name := "pairsEverySurrogate", desc := "(Ljava/lang/String;)Z", sig := { parameters := [(.object "java/lang/String")], returnType := some .boolean }, accessFlags := 10, code := some k10c6 }
def k10c7 : Code := { maxStack := 2, maxLocals := 3, code := prog_3_method_9_code, exceptionTable := #[], attributes := #[] }
def k10m7 : Method := { name := "hasControlCharacter", desc := "(Ljava/lang/String;)Z", sig := { parameters := [(.object "java/lang/String")], returnType := some .boolean }, accessFlags := 10, code := some k10c7 }
/-- com/example/ticks_into_totals/ticksintototals/CounterName -/
def k10 : Class := { plain "com/example/ticks_into_totals/ticksintototals/CounterName" (some 9) with
  accessFlags := 49
  interfaces := #[]
  cf := some (fileOf pool10 10 #[] #[{ accessFlags := 1, nameIndex := 5, descriptorIndex := 127, attributes := #[] }, { accessFlags := 1, nameIndex := 33, descriptorIndex := 34, attributes := #[] }, { accessFlags := 8, nameIndex := 13, descriptorIndex := 14, attributes := #[] }, { accessFlags := 10, nameIndex := 54, descriptorIndex := 55, attributes := #[] }, { accessFlags := 10, nameIndex := 81, descriptorIndex := 82, attributes := #[] }, { accessFlags := 8, nameIndex := 17, descriptorIndex := 18, attributes := #[] }, { accessFlags := 10, nameIndex := 86, descriptorIndex := 55, attributes := #[] }, { accessFlags := 10, nameIndex := 103, descriptorIndex := 55, attributes := #[] }] 49 2 #[] #[{ accessFlags := 18, nameIndex := 8, descriptorIndex := 23, attributes := #[] }, { accessFlags := 18, nameIndex := 26, descriptorIndex := 23, attributes := #[] }, { accessFlags := 18, nameIndex := 20, descriptorIndex := 23, attributes := #[] }, { accessFlags := 26, nameIndex := 121, descriptorIndex := 122, attributes := #[] }, { accessFlags := 26, nameIndex := 125, descriptorIndex := 122, attributes := #[] }])
  fields := #[{ name := "ns", type := (.object "java/lang/String"), accessFlags := 18, slot := 0, constantValue := 0 }, { name := "id", type := (.object "java/lang/String"), accessFlags := 18, slot := 1, constantValue := 0 }, { name := "field", type := (.object "java/lang/String"), accessFlags := 18, slot := 2, constantValue := 0 }, { name := "MAX_TOKEN_LENGTH", type := .int, accessFlags := 26, slot := 0, constantValue := 0 }, { name := "MAX_ID_BYTES", type := .int, accessFlags := 26, slot := 1, constantValue := 0 }]
  methods := #[k10m0, k10m1, k10m2, k10m3, k10m4, k10m5, k10m6, k10m7]
  instanceTypes := #[(.object "java/lang/String"), (.object "java/lang/String"), (.object "java/lang/String")]
  staticTypes := #[.int, .int]
  resolved := Array.replicate 155 none
  statics := none }

def pool11 : Array CpInfo := pool [(2, .class_ 4), (1, u "java/lang/Object"), (0, u "<init>"), (0, u "()V"), (35, .class_ 44), (1, u "java/util/Objects"), (0, u "requireNonNull"), (48, u "(Ljava/lang/Object;Ljava/lang/String;)Ljava/lang/Object;")] 89

def k11m0 : Method := { name := "<init>", desc := "()V", sig := { parameters := [], returnType := none }, accessFlags := 2, code := none }
def k11c1 : Code := { maxStack := 3, maxLocals := 2, code := jdk_31_method_11_code, exceptionTable := #[], attributes := #[] }
def k11m1 : Method := { name := "requireNonNull", desc := "(Ljava/lang/Object;Ljava/lang/String;)Ljava/lang/Object;", sig := { parameters := [(.object "java/lang/Object"), (.object "java/lang/String")], returnType := some (.object "java/lang/Object") }, accessFlags := 9, code := some k11c1 }
/-- java/util/Objects -/
def k11 : Class := { plain "java/util/Objects" (some 0) with
  accessFlags := 49
  interfaces := #[]
  cf := some (fileOf pool11 42 #[] #[{ accessFlags := 2, nameIndex := 5, descriptorIndex := 6, attributes := #[] }, { accessFlags := 9, nameIndex := 45, descriptorIndex := 94, attributes := #[] }] 49 2 #[] #[])
  fields := #[]
  methods := #[k11m0, k11m1]
  instanceTypes := #[]
  staticTypes := #[]
  resolved := Array.replicate 184 none
  statics := none }

def pool12 : Array CpInfo := pool [(1, .class_ 2), (0, u "java/lang/String"), (1, .class_ 6), (1, u "java/lang/Object"), (0, u "<init>"), (0, u "()V"), (0, .methodref 1 10), (0, .nameAndType 11 12), (0, u "checkIndex"), (0, u "(II)V"), (1, .class_ 16), (1, u "java/lang/StringLatin1"), (36, u "([BI)C"), (67, u "$assertionsDisabled"), (0, u "Z"), (98, .class_ 223), (1, u "java/lang/StringLatin1$LinesSpliterator"), (28, u "charAt"), (28, u "equals"), (0, u "([B[B)Z"), (107, .class_ 391), (0, u "java/lang/StringLatin1$CharsSpliterator")] 3

def k12m0 : Method := { name := "<init>", desc := "()V", sig := { parameters := [], returnType := none }, accessFlags := 0, code := none }
def k12c1 : Code := { maxStack := 2, maxLocals := 2, code := jdk_43_method_2_code, exceptionTable := #[], attributes := #[] }
def k12m1 : Method := { name := "charAt", desc := "([BI)C", sig := { parameters := [(.array .byte), .int], returnType := some .char }, accessFlags := 9, code := some k12c1 }
def k12c2 : Code := { maxStack := 3, maxLocals := 3, code := jdk_43_method_13_code, exceptionTable := #[], attributes := #[] }
def k12m2 : Method := { name := "equals", desc := "([B[B)Z", sig := { parameters := [(.array .byte), (.array .byte)], returnType := some .boolean }, accessFlags := 9, code := some k12c2 }
/-- java/lang/StringLatin1 -/
def k12 : Class := { plain "java/lang/StringLatin1" (some 0) with
  accessFlags := 48
  interfaces := #[]
  cf := some (fileOf pool12 14 #[.nestMembers #[390, 221]] #[{ accessFlags := 0, nameIndex := 7, descriptorIndex := 8, attributes := #[] }, { accessFlags := 9, nameIndex := 252, descriptorIndex := 53, attributes := #[] }, { accessFlags := 9, nameIndex := 281, descriptorIndex := 282, attributes := #[] }] 48 4 #[] #[{ accessFlags := 4120, nameIndex := 121, descriptorIndex := 122, attributes := #[] }])
  fields := #[{ name := "$assertionsDisabled", type := .boolean, accessFlags := 4120, slot := 0, constantValue := 0 }]
  methods := #[k12m0, k12m1, k12m2]
  instanceTypes := #[]
  staticTypes := #[.boolean]
  resolved := Array.replicate 395 none
  statics := none }

def pool13 : Array CpInfo := pool [(2, .class_ 4), (1, u "java/lang/Object"), (0, u "<init>"), (0, u "()V"), (17, .class_ 26), (1, u "jdk/internal/util/Preconditions"), (6, u "checkIndex"), (21, .class_ 56), (0, u "jdk/internal/util/Preconditions$4"), (57, .class_ 115), (0, u "jdk/internal/util/Preconditions$1"), (7, u "SIOOBE_FORMATTER"), (0, u "Ljava/util/function/BiFunction;"), (0, .class_ 126), (0, u "jdk/internal/util/Preconditions$2"), (3, u "AIOOBE_FORMATTER"), (0, .class_ 132), (0, u "jdk/internal/util/Preconditions$3"), (3, u "IOOBE_FORMATTER"), (41, u "(IILjava/util/function/BiFunction;)I")] 15

def k13m0 : Method := { name := "<init>", desc := "()V", sig := { parameters := [], returnType := none }, accessFlags := 1, code := none }
def k13c1 : Code := { maxStack := 3, maxLocals := 3, code := jdk_41_method_11_code, exceptionTable := #[], attributes := #[] }
def k13m1 : Method := { name := "checkIndex", desc := "(IILjava/util/function/BiFunction;)I", sig := { parameters := [.int, .int, (.object "java/util/function/BiFunction")], returnType := some .int }, accessFlags := 9, code := some k13c1 }
/-- jdk/internal/util/Preconditions -/
def k13 : Class := { plain "jdk/internal/util/Preconditions" (some 0) with
  accessFlags := 33
  interfaces := #[]
  cf := some (fileOf pool13 24 #[.nestMembers #[55, 131, 125, 114]] #[{ accessFlags := 1, nameIndex := 5, descriptorIndex := 6, attributes := #[] }, { accessFlags := 9, nameIndex := 33, descriptorIndex := 178, attributes := #[] }] 33 2 #[] #[{ accessFlags := 25, nameIndex := 123, descriptorIndex := 124, attributes := #[] }, { accessFlags := 25, nameIndex := 130, descriptorIndex := 124, attributes := #[] }, { accessFlags := 25, nameIndex := 136, descriptorIndex := 124, attributes := #[] }])
  fields := #[{ name := "SIOOBE_FORMATTER", type := (.object "java/util/function/BiFunction"), accessFlags := 25, slot := 0, constantValue := 0 }, { name := "AIOOBE_FORMATTER", type := (.object "java/util/function/BiFunction"), accessFlags := 25, slot := 1, constantValue := 0 }, { name := "IOOBE_FORMATTER", type := (.object "java/util/function/BiFunction"), accessFlags := 25, slot := 2, constantValue := 0 }]
  methods := #[k13m0, k13m1]
  instanceTypes := #[]
  staticTypes := #[(.object "java/util/function/BiFunction"), (.object "java/util/function/BiFunction"), (.object "java/util/function/BiFunction")]
  resolved := Array.replicate 194 none
  statics := some 2 }

def pool14 : Array CpInfo := pool [(1, .class_ 2), (0, u "java/lang/Character"), (18, u "value"), (0, u "C"), (19, .class_ 44), (1, u "java/lang/Object"), (3, .class_ 50), (1, u "java/lang/Character$CharacterCache"), (22, .integer 65536), (1, .integer 55296), (0, .integer 56320), (0, .integer 57344), (2, u "isHighSurrogate"), (0, u "(C)Z"), (92, u "(I)I"), (109, u "$assertionsDisabled"), (0, u "Z"), (21, .class_ 309), (1, u "java/lang/Character$UnicodeBlock"), (73, u "TYPE"), (0, u "Ljava/lang/Class;"), (0, .class_ 386), (0, u "java/io/Serializable"), (0, .class_ 388), (0, u "java/lang/Comparable"), (0, .class_ 390), (0, u "java/lang/constant/Constable"), (0, u "MIN_RADIX"), (0, u "I"), (2, u "MAX_RADIX"), (1, u "MIN_VALUE"), (1, u "MAX_VALUE"), (3, u "UNASSIGNED"), (0, u "B"), (0, u "UPPERCASE_LETTER"), (1, u "LOWERCASE_LETTER"), (0, u "TITLECASE_LETTER"), (1, u "MODIFIER_LETTER"), (1, u "OTHER_LETTER"), (1, u "NON_SPACING_MARK"), (1, u "ENCLOSING_MARK"), (1, u "COMBINING_SPACING_MARK"), (1, u "DECIMAL_DIGIT_NUMBER"), (1, u "LETTER_NUMBER"), (1, u "OTHER_NUMBER"), (1, u "SPACE_SEPARATOR"), (1, u "LINE_SEPARATOR"), (1, u "PARAGRAPH_SEPARATOR"), (1, u "CONTROL"), (1, u "FORMAT"), (1, u "PRIVATE_USE"), (1, u "SURROGATE"), (1, u "DASH_PUNCTUATION"), (1, u "START_PUNCTUATION"), (1, u "END_PUNCTUATION"), (1, u "CONNECTOR_PUNCTUATION"), (1, u "OTHER_PUNCTUATION"), (1, u "MATH_SYMBOL"), (1, u "CURRENCY_SYMBOL"), (1, u "MODIFIER_SYMBOL"), (1, u "OTHER_SYMBOL"), (1, u "INITIAL_QUOTE_PUNCTUATION"), (1, u "FINAL_QUOTE_PUNCTUATION"), (1, u "ERROR"), (1, u "DIRECTIONALITY_UNDEFINED"), (0, u "DIRECTIONALITY_LEFT_TO_RIGHT"), (0, u "DIRECTIONALITY_RIGHT_TO_LEFT"), (0, u "DIRECTIONALITY_RIGHT_TO_LEFT_ARABIC"), (0, u "DIRECTIONALITY_EUROPEAN_NUMBER"), (0, u "DIRECTIONALITY_EUROPEAN_NUMBER_SEPARATOR"), (0, u "DIRECTIONALITY_EUROPEAN_NUMBER_TERMINATOR"), (0, u "DIRECTIONALITY_ARABIC_NUMBER"), (0, u "DIRECTIONALITY_COMMON_NUMBER_SEPARATOR"), (0, u "DIRECTIONALITY_NONSPACING_MARK"), (0, u "DIRECTIONALITY_BOUNDARY_NEUTRAL"), (0, u "DIRECTIONALITY_PARAGRAPH_SEPARATOR"), (0, u "DIRECTIONALITY_SEGMENT_SEPARATOR"), (0, u "DIRECTIONALITY_WHITESPACE"), (0, u "DIRECTIONALITY_OTHER_NEUTRALS"), (0, u "DIRECTIONALITY_LEFT_TO_RIGHT_EMBEDDING"), (0, u "DIRECTIONALITY_LEFT_TO_RIGHT_OVERRIDE"), (0, u "DIRECTIONALITY_RIGHT_TO_LEFT_EMBEDDING"), (0, u "DIRECTIONALITY_RIGHT_TO_LEFT_OVERRIDE"), (1, u "DIRECTIONALITY_POP_DIRECTIONAL_FORMAT"), (0, u "DIRECTIONALITY_LEFT_TO_RIGHT_ISOLATE"), (0, u "DIRECTIONALITY_RIGHT_TO_LEFT_ISOLATE"), (0, u "DIRECTIONALITY_FIRST_STRONG_ISOLATE"), (0, u "DIRECTIONALITY_POP_DIRECTIONAL_ISOLATE"), (0, u "MIN_HIGH_SURROGATE"), (0, u "MAX_HIGH_SURROGATE"), (1, u "MIN_LOW_SURROGATE"), (0, u "MAX_LOW_SURROGATE"), (1, u "MIN_SURROGATE"), (0, u "MAX_SURROGATE"), (0, u "MIN_SUPPLEMENTARY_CODE_POINT"), (0, u "MIN_CODE_POINT"), (0, u "MAX_CODE_POINT"), (1, u "serialVersionUID"), (0, u "J"), (2, u "SIZE"), (0, u "BYTES"), (24, u "isSurrogate"), (4, u "charCount"), (58, .class_ 596), (0, u "java/lang/Character$UnicodeScript"), (0, .class_ 598), (0, u "java/lang/Character$Subset")] 5

def k14c0 : Code := { maxStack := 2, maxLocals := 1, code := jdk_89_method_14_code, exceptionTable := #[], attributes := #[] }
def k14m0 : Method := { name := "isHighSurrogate", desc := "(C)Z", sig := { parameters := [.char], returnType := some .boolean }, accessFlags := 9, code := some k14c0 }
def k14c1 : Code := { maxStack := 2, maxLocals := 1, code := jdk_89_method_16_code, exceptionTable := #[], attributes := #[] }
def k14m1 : Method := { name := "isSurrogate", desc := "(C)Z", sig := { parameters := [.char], returnType := some .boolean }, accessFlags := 9, code := some k14c1 }
def k14c2 : Code := { maxStack := 2, maxLocals := 1, code := jdk_89_method_18_code, exceptionTable := #[], attributes := #[] }
def k14m2 : Method := { name := "charCount", desc := "(I)I", sig := { parameters := [.int], returnType := some .int }, accessFlags := 9, code := some k14c2 }
/-- java/lang/Character -/
def k14 : Class := { plain "java/lang/Character" (some 0) with
  accessFlags := 49
  interfaces := #[2, 3, 5]
  cf := some (fileOf pool14 1 #[.nestMembers #[48, 595, 307, 597]] #[{ accessFlags := 9, nameIndex := 80, descriptorIndex := 81, attributes := #[] }, { accessFlags := 9, nameIndex := 531, descriptorIndex := 81, attributes := #[] }, { accessFlags := 9, nameIndex := 536, descriptorIndex := 174, attributes := #[] }] 49 42 #[385, 387, 389] #[{ accessFlags := 25, nameIndex := 391, descriptorIndex := 392, attributes := #[] }, { accessFlags := 25, nameIndex := 395, descriptorIndex := 392, attributes := #[] }, { accessFlags := 25, nameIndex := 397, descriptorIndex := 22, attributes := #[] }, { accessFlags := 25, nameIndex := 399, descriptorIndex := 22, attributes := #[] }, { accessFlags := 25, nameIndex := 383, descriptorIndex := 384, attributes := #[] }, { accessFlags := 25, nameIndex := 403, descriptorIndex := 404, attributes := #[] }, { accessFlags := 25, nameIndex := 405, descriptorIndex := 404, attributes := #[] }, { accessFlags := 25, nameIndex := 407, descriptorIndex := 404, attributes := #[] }, { accessFlags := 25, nameIndex := 408, descriptorIndex := 404, attributes := #[] }, { accessFlags := 25, nameIndex := 410, descriptorIndex := 404, attributes := #[] }, { accessFlags := 25, nameIndex := 412, descriptorIndex := 404, attributes := #[] }, { accessFlags := 25, nameIndex := 414, descriptorIndex := 404, attributes := #[] }, { accessFlags := 25, nameIndex := 416, descriptorIndex := 404, attributes := #[] }, { accessFlags := 25, nameIndex := 418, descriptorIndex := 404, attributes := #[] }, { accessFlags := 25, nameIndex := 420, descriptorIndex := 404, attributes := #[] }, { accessFlags := 25, nameIndex := 422, descriptorIndex := 404, attributes := #[] }, { accessFlags := 25, nameIndex := 424, descriptorIndex := 404, attributes := #[] }, { accessFlags := 25, nameIndex := 426, descriptorIndex := 404, attributes := #[] }, { accessFlags := 25, nameIndex := 428, descriptorIndex := 404, attributes := #[] }, { accessFlags := 25, nameIndex := 430, descriptorIndex := 404, attributes := #[] }, { accessFlags := 25, nameIndex := 432, descriptorIndex := 404, attributes := #[] }, { accessFlags := 25, nameIndex := 434, descriptorIndex := 404, attributes := #[] }, { accessFlags := 25, nameIndex := 436, descriptorIndex := 404, attributes := #[] }, { accessFlags := 25, nameIndex := 438, descriptorIndex := 404, attributes := #[] }, { accessFlags := 25, nameIndex := 440, descriptorIndex := 404, attributes := #[] }, { accessFlags := 25, nameIndex := 442, descriptorIndex := 404, attributes := #[] }, { accessFlags := 25, nameIndex := 444, descriptorIndex := 404, attributes := #[] }, { accessFlags := 25, nameIndex := 446, descriptorIndex := 404, attributes := #[] }, { accessFlags := 25, nameIndex := 448, descriptorIndex := 404, attributes := #[] }, { accessFlags := 25, nameIndex := 450, descriptorIndex := 404, attributes := #[] }, { accessFlags := 25, nameIndex := 452, descriptorIndex := 404, attributes := #[] }, { accessFlags := 25, nameIndex := 454, descriptorIndex := 404, attributes := #[] }, { accessFlags := 25, nameIndex := 456, descriptorIndex := 404, attributes := #[] }, { accessFlags := 25, nameIndex := 458, descriptorIndex := 404, attributes := #[] }, { accessFlags := 25, nameIndex := 460, descriptorIndex := 404, attributes := #[] }, { accessFlags := 24, nameIndex := 462, descriptorIndex := 392, attributes := #[] }, { accessFlags := 25, nameIndex := 464, descriptorIndex := 404, attributes := #[] }, { accessFlags := 25, nameIndex := 465, descriptorIndex := 404, attributes := #[] }, { accessFlags := 25, nameIndex := 466, descriptorIndex := 404, attributes := #[] }, { accessFlags := 25, nameIndex := 467, descriptorIndex := 404, attributes := #[] }, { accessFlags := 25, nameIndex := 468, descriptorIndex := 404, attributes := #[] }, { accessFlags := 25, nameIndex := 469, descriptorIndex := 404, attributes := #[] }, { accessFlags := 25, nameIndex := 470, descriptorIndex := 404, attributes := #[] }, { accessFlags := 25, nameIndex := 471, descriptorIndex := 404, attributes := #[] }, { accessFlags := 25, nameIndex := 472, descriptorIndex := 404, attributes := #[] }, { accessFlags := 25, nameIndex := 473, descriptorIndex := 404, attributes := #[] }, { accessFlags := 25, nameIndex := 474, descriptorIndex := 404, attributes := #[] }, { accessFlags := 25, nameIndex := 475, descriptorIndex := 404, attributes := #[] }, { accessFlags := 25, nameIndex := 476, descriptorIndex := 404, attributes := #[] }, { accessFlags := 25, nameIndex := 477, descriptorIndex := 404, attributes := #[] }, { accessFlags := 25, nameIndex := 478, descriptorIndex := 404, attributes := #[] }, { accessFlags := 25, nameIndex := 479, descriptorIndex := 404, attributes := #[] }, { accessFlags := 25, nameIndex := 480, descriptorIndex := 404, attributes := #[] }, { accessFlags := 25, nameIndex := 481, descriptorIndex := 404, attributes := #[] }, { accessFlags := 25, nameIndex := 482, descriptorIndex := 404, attributes := #[] }, { accessFlags := 25, nameIndex := 484, descriptorIndex := 404, attributes := #[] }, { accessFlags := 25, nameIndex := 485, descriptorIndex := 404, attributes := #[] }, { accessFlags := 25, nameIndex := 486, descriptorIndex := 404, attributes := #[] }, { accessFlags := 25, nameIndex := 487, descriptorIndex := 404, attributes := #[] }, { accessFlags := 25, nameIndex := 488, descriptorIndex := 404, attributes := #[] }, { accessFlags := 25, nameIndex := 489, descriptorIndex := 22, attributes := #[] }, { accessFlags := 25, nameIndex := 490, descriptorIndex := 22, attributes := #[] }, { accessFlags := 25, nameIndex := 492, descriptorIndex := 22, attributes := #[] }, { accessFlags := 25, nameIndex := 493, descriptorIndex := 22, attributes := #[] }, { accessFlags := 25, nameIndex := 495, descriptorIndex := 22, attributes := #[] }, { accessFlags := 25, nameIndex := 496, descriptorIndex := 22, attributes := #[] }, { accessFlags := 25, nameIndex := 497, descriptorIndex := 392, attributes := #[] }, { accessFlags := 25, nameIndex := 498, descriptorIndex := 392, attributes := #[] }, { accessFlags := 25, nameIndex := 499, descriptorIndex := 392, attributes := #[] }, { accessFlags := 18, nameIndex := 21, descriptorIndex := 22, attributes := #[] }, { accessFlags := 26, nameIndex := 501, descriptorIndex := 502, attributes := #[] }, { accessFlags := 25, nameIndex := 505, descriptorIndex := 392, attributes := #[] }, { accessFlags := 25, nameIndex := 506, descriptorIndex := 392, attributes := #[] }, { accessFlags := 4120, nameIndex := 284, descriptorIndex := 285, attributes := #[] }])
  fields := #[{ name := "MIN_RADIX", type := .int, accessFlags := 25, slot := 0, constantValue := 0 }, { name := "MAX_RADIX", type := .int, accessFlags := 25, slot := 1, constantValue := 0 }, { name := "MIN_VALUE", type := .char, accessFlags := 25, slot := 2, constantValue := 0 }, { name := "MAX_VALUE", type := .char, accessFlags := 25, slot := 3, constantValue := 0 }, { name := "TYPE", type := (.object "java/lang/Class"), accessFlags := 25, slot := 4, constantValue := 0 }, { name := "UNASSIGNED", type := .byte, accessFlags := 25, slot := 5, constantValue := 0 }, { name := "UPPERCASE_LETTER", type := .byte, accessFlags := 25, slot := 6, constantValue := 0 }, { name := "LOWERCASE_LETTER", type := .byte, accessFlags := 25, slot := 7, constantValue := 0 }, { name := "TITLECASE_LETTER", type := .byte, accessFlags := 25, slot := 8, constantValue := 0 }, { name := "MODIFIER_LETTER", type := .byte, accessFlags := 25, slot := 9, constantValue := 0 }, { name := "OTHER_LETTER", type := .byte, accessFlags := 25, slot := 10, constantValue := 0 }, { name := "NON_SPACING_MARK", type := .byte, accessFlags := 25, slot := 11, constantValue := 0 }, { name := "ENCLOSING_MARK", type := .byte, accessFlags := 25, slot := 12, constantValue := 0 }, { name := "COMBINING_SPACING_MARK", type := .byte, accessFlags := 25, slot := 13, constantValue := 0 }, { name := "DECIMAL_DIGIT_NUMBER", type := .byte, accessFlags := 25, slot := 14, constantValue := 0 }, { name := "LETTER_NUMBER", type := .byte, accessFlags := 25, slot := 15, constantValue := 0 }, { name := "OTHER_NUMBER", type := .byte, accessFlags := 25, slot := 16, constantValue := 0 }, { name := "SPACE_SEPARATOR", type := .byte, accessFlags := 25, slot := 17, constantValue := 0 }, { name := "LINE_SEPARATOR", type := .byte, accessFlags := 25, slot := 18, constantValue := 0 }, { name := "PARAGRAPH_SEPARATOR", type := .byte, accessFlags := 25, slot := 19, constantValue := 0 }, { name := "CONTROL", type := .byte, accessFlags := 25, slot := 20, constantValue := 0 }, { name := "FORMAT", type := .byte, accessFlags := 25, slot := 21, constantValue := 0 }, { name := "PRIVATE_USE", type := .byte, accessFlags := 25, slot := 22, constantValue := 0 }, { name := "SURROGATE", type := .byte, accessFlags := 25, slot := 23, constantValue := 0 }, { name := "DASH_PUNCTUATION", type := .byte, accessFlags := 25, slot := 24, constantValue := 0 }, { name := "START_PUNCTUATION", type := .byte, accessFlags := 25, slot := 25, constantValue := 0 }, { name := "END_PUNCTUATION", type := .byte, accessFlags := 25, slot := 26, constantValue := 0 }, { name := "CONNECTOR_PUNCTUATION", type := .byte, accessFlags := 25, slot := 27, constantValue := 0 }, { name := "OTHER_PUNCTUATION", type := .byte, accessFlags := 25, slot := 28, constantValue := 0 }, { name := "MATH_SYMBOL", type := .byte, accessFlags := 25, slot := 29, constantValue := 0 }, { name := "CURRENCY_SYMBOL", type := .byte, accessFlags := 25, slot := 30, constantValue := 0 }, { name := "MODIFIER_SYMBOL", type := .byte, accessFlags := 25, slot := 31, constantValue := 0 }, { name := "OTHER_SYMBOL", type := .byte, accessFlags := 25, slot := 32, constantValue := 0 }, { name := "INITIAL_QUOTE_PUNCTUATION", type := .byte, accessFlags := 25, slot := 33, constantValue := 0 }, { name := "FINAL_QUOTE_PUNCTUATION", type := .byte, accessFlags := 25, slot := 34, constantValue := 0 }, { name := "ERROR", type := .int, accessFlags := 24, slot := 35, constantValue := 0 }, { name := "DIRECTIONALITY_UNDEFINED", type := .byte, accessFlags := 25, slot := 36, constantValue := 0 }, { name := "DIRECTIONALITY_LEFT_TO_RIGHT", type := .byte, accessFlags := 25, slot := 37, constantValue := 0 }, { name := "DIRECTIONALITY_RIGHT_TO_LEFT", type := .byte, accessFlags := 25, slot := 38, constantValue := 0 }, { name := "DIRECTIONALITY_RIGHT_TO_LEFT_ARABIC", type := .byte, accessFlags := 25, slot := 39, constantValue := 0 }, { name := "DIRECTIONALITY_EUROPEAN_NUMBER", type := .byte, accessFlags := 25, slot := 40, constantValue := 0 }, { name := "DIRECTIONALITY_EUROPEAN_NUMBER_SEPARATOR", type := .byte, accessFlags := 25, slot := 41, constantValue := 0 }, { name := "DIRECTIONALITY_EUROPEAN_NUMBER_TERMINATOR", type := .byte, accessFlags := 25, slot := 42, constantValue := 0 }, { name := "DIRECTIONALITY_ARABIC_NUMBER", type := .byte, accessFlags := 25, slot := 43, constantValue := 0 }, { name := "DIRECTIONALITY_COMMON_NUMBER_SEPARATOR", type := .byte, accessFlags := 25, slot := 44, constantValue := 0 }, { name := "DIRECTIONALITY_NONSPACING_MARK", type := .byte, accessFlags := 25, slot := 45, constantValue := 0 }, { name := "DIRECTIONALITY_BOUNDARY_NEUTRAL", type := .byte, accessFlags := 25, slot := 46, constantValue := 0 }, { name := "DIRECTIONALITY_PARAGRAPH_SEPARATOR", type := .byte, accessFlags := 25, slot := 47, constantValue := 0 }, { name := "DIRECTIONALITY_SEGMENT_SEPARATOR", type := .byte, accessFlags := 25, slot := 48, constantValue := 0 }, { name := "DIRECTIONALITY_WHITESPACE", type := .byte, accessFlags := 25, slot := 49, constantValue := 0 }, { name := "DIRECTIONALITY_OTHER_NEUTRALS", type := .byte, accessFlags := 25, slot := 50, constantValue := 0 }, { name := "DIRECTIONALITY_LEFT_TO_RIGHT_EMBEDDING", type := .byte, accessFlags := 25, slot := 51, constantValue := 0 }, { name := "DIRECTIONALITY_LEFT_TO_RIGHT_OVERRIDE", type := .byte, accessFlags := 25, slot := 52, constantValue := 0 }, { name := "DIRECTIONALITY_RIGHT_TO_LEFT_EMBEDDING", type := .byte, accessFlags := 25, slot := 53, constantValue := 0 }, { name := "DIRECTIONALITY_RIGHT_TO_LEFT_OVERRIDE", type := .byte, accessFlags := 25, slot := 54, constantValue := 0 }, { name := "DIRECTIONALITY_POP_DIRECTIONAL_FORMAT", type := .byte, accessFlags := 25, slot := 55, constantValue := 0 }, { name := "DIRECTIONALITY_LEFT_TO_RIGHT_ISOLATE", type := .byte, accessFlags := 25, slot := 56, constantValue := 0 }, { name := "DIRECTIONALITY_RIGHT_TO_LEFT_ISOLATE", type := .byte, accessFlags := 25, slot := 57, constantValue := 0 }, { name := "DIRECTIONALITY_FIRST_STRONG_ISOLATE", type := .byte, accessFlags := 25, slot := 58, constantValue := 0 }, { name := "DIRECTIONALITY_POP_DIRECTIONAL_ISOLATE", type := .byte, accessFlags := 25, slot := 59, constantValue := 0 }, { name := "MIN_HIGH_SURROGATE", type := .char, accessFlags := 25, slot := 60, constantValue := 0 }, { name := "MAX_HIGH_SURROGATE", type := .char, accessFlags := 25, slot := 61, constantValue := 0 }, { name := "MIN_LOW_SURROGATE", type := .char, accessFlags := 25, slot := 62, constantValue := 0 }, { name := "MAX_LOW_SURROGATE", type := .char, accessFlags := 25, slot := 63, constantValue := 0 }, { name := "MIN_SURROGATE", type := .char, accessFlags := 25, slot := 64, constantValue := 0 }, { name := "MAX_SURROGATE", type := .char, accessFlags := 25, slot := 65, constantValue := 0 }, { name := "MIN_SUPPLEMENTARY_CODE_POINT", type := .int, accessFlags := 25, slot := 66, constantValue := 0 }, { name := "MIN_CODE_POINT", type := .int, accessFlags := 25, slot := 67, constantValue := 0 }, { name := "MAX_CODE_POINT", type := .int, accessFlags := 25, slot := 68, constantValue := 0 }, { name := "value", type := .char, accessFlags := 18, slot := 0, constantValue := 0 }, { name := "serialVersionUID", type := .long, accessFlags := 26, slot := 69, constantValue := 0 }, { name := "SIZE", type := .int, accessFlags := 25, slot := 70, constantValue := 0 }, { name := "BYTES", type := .int, accessFlags := 25, slot := 71, constantValue := 0 }, { name := "$assertionsDisabled", type := .boolean, accessFlags := 4120, slot := 72, constantValue := 0 }]
  methods := #[k14m0, k14m1, k14m2]
  instanceTypes := #[.char]
  staticTypes := #[.int, .int, .char, .char, (.object "java/lang/Class"), .byte, .byte, .byte, .byte, .byte, .byte, .byte, .byte, .byte, .byte, .byte, .byte, .byte, .byte, .byte, .byte, .byte, .byte, .byte, .byte, .byte, .byte, .byte, .byte, .byte, .byte, .byte, .byte, .byte, .byte, .int, .byte, .byte, .byte, .byte, .byte, .byte, .byte, .byte, .byte, .byte, .byte, .byte, .byte, .byte, .byte, .byte, .byte, .byte, .byte, .byte, .byte, .byte, .byte, .byte, .char, .char, .char, .char, .char, .char, .int, .int, .int, .long, .int, .int, .boolean]
  resolved := Array.replicate 604 none
  statics := none }

def pool15 : Array CpInfo := pool [(2, .class_ 4), (1, u "java/lang/Object"), (0, u "<init>"), (0, u "()V"), (14, .class_ 23), (1, u "java/nio/charset/StandardCharsets"), (0, u "US_ASCII"), (0, u "Ljava/nio/charset/Charset;"), (7, u "ISO_8859_1"), (7, u "UTF_8"), (5, u "UTF_16BE"), (5, u "UTF_16LE"), (5, u "UTF_16")] 8

def k15m0 : Method := { name := "<init>", desc := "()V", sig := { parameters := [], returnType := none }, accessFlags := 2, code := none }
/-- java/nio/charset/StandardCharsets -/
def k15 : Class := { plain "java/nio/charset/StandardCharsets" (some 0) with
  accessFlags := 49
  interfaces := #[]
  cf := some (fileOf pool15 21 #[] #[{ accessFlags := 2, nameIndex := 5, descriptorIndex := 6, attributes := #[] }] 49 2 #[] #[{ accessFlags := 25, nameIndex := 24, descriptorIndex := 25, attributes := #[] }, { accessFlags := 25, nameIndex := 33, descriptorIndex := 25, attributes := #[] }, { accessFlags := 25, nameIndex := 41, descriptorIndex := 25, attributes := #[] }, { accessFlags := 25, nameIndex := 47, descriptorIndex := 25, attributes := #[] }, { accessFlags := 25, nameIndex := 53, descriptorIndex := 25, attributes := #[] }, { accessFlags := 25, nameIndex := 59, descriptorIndex := 25, attributes := #[] }])
  fields := #[{ name := "US_ASCII", type := (.object "java/nio/charset/Charset"), accessFlags := 25, slot := 0, constantValue := 0 }, { name := "ISO_8859_1", type := (.object "java/nio/charset/Charset"), accessFlags := 25, slot := 1, constantValue := 0 }, { name := "UTF_8", type := (.object "java/nio/charset/Charset"), accessFlags := 25, slot := 2, constantValue := 0 }, { name := "UTF_16BE", type := (.object "java/nio/charset/Charset"), accessFlags := 25, slot := 3, constantValue := 0 }, { name := "UTF_16LE", type := (.object "java/nio/charset/Charset"), accessFlags := 25, slot := 4, constantValue := 0 }, { name := "UTF_16", type := (.object "java/nio/charset/Charset"), accessFlags := 25, slot := 5, constantValue := 0 }]
  methods := #[k15m0]
  instanceTypes := #[]
  staticTypes := #[(.object "java/nio/charset/Charset"), (.object "java/nio/charset/Charset"), (.object "java/nio/charset/Charset"), (.object "java/nio/charset/Charset"), (.object "java/nio/charset/Charset"), (.object "java/nio/charset/Charset")]
  resolved := Array.replicate 68 none
  statics := some 3 }

def pool16 : Array CpInfo := pool [(18, .class_ 20), (1, u "java/nio/charset/Charset"), (0, u "cache1"), (0, u "[Ljava/lang/Object;"), (2, u "cache2"), (0, .class_ 27), (0, u "java/lang/Object"), (0, .class_ 29), (0, u "java/nio/charset/Charset$1"), (4, .class_ 36), (1, u "java/nio/charset/Charset$ThreadTrackHolder"), (21, .class_ 59), (0, u "java/nio/charset/Charset$2"), (11, .class_ 73), (1, u "java/nio/charset/Charset$ExtendedProviderHolder"), (22, u "standardProvider"), (0, u "Ljava/nio/charset/spi/CharsetProvider;"), (29, u "name"), (7, .class_ 136), (0, u "java/nio/charset/Charset$3"), (5, u "defaultCharset"), (0, u "Ljava/nio/charset/Charset;"), (14, u "zeroAliases"), (0, u "[Ljava/lang/String;"), (29, u "Ljava/lang/String;"), (2, u "aliases"), (2, u "aliasSet"), (0, u "Ljava/util/Set;"), (82, .class_ 280), (0, u "java/lang/Comparable"), (84, .class_ 366), (0, u "java/nio/charset/Charset$ExtendedProviderHolder$1")] 3

/-- java/nio/charset/Charset -/
def k16 : Class := { plain "java/nio/charset/Charset" (some 0) with
  accessFlags := 1057
  interfaces := #[3]
  cf := some (fileOf pool16 18 #[.nestMembers #[71, 365, 34, 135, 58, 28]] #[] 1057 26 #[279] #[{ accessFlags := 26, nameIndex := 96, descriptorIndex := 97, attributes := #[] }, { accessFlags := 26, nameIndex := 158, descriptorIndex := 159, attributes := #[] }, { accessFlags := 74, nameIndex := 21, descriptorIndex := 22, attributes := #[] }, { accessFlags := 74, nameIndex := 25, descriptorIndex := 22, attributes := #[] }, { accessFlags := 10, nameIndex := 142, descriptorIndex := 143, attributes := #[] }, { accessFlags := 18, nameIndex := 127, descriptorIndex := 189, attributes := #[] }, { accessFlags := 18, nameIndex := 192, descriptorIndex := 159, attributes := #[] }, { accessFlags := 2, nameIndex := 195, descriptorIndex := 196, attributes := #[] }])
  fields := #[{ name := "standardProvider", type := (.object "java/nio/charset/spi/CharsetProvider"), accessFlags := 26, slot := 0, constantValue := 0 }, { name := "zeroAliases", type := (.array (.object "java/lang/String")), accessFlags := 26, slot := 1, constantValue := 0 }, { name := "cache1", type := (.array (.object "java/lang/Object")), accessFlags := 74, slot := 2, constantValue := 0 }, { name := "cache2", type := (.array (.object "java/lang/Object")), accessFlags := 74, slot := 3, constantValue := 0 }, { name := "defaultCharset", type := (.object "java/nio/charset/Charset"), accessFlags := 10, slot := 4, constantValue := 0 }, { name := "name", type := (.object "java/lang/String"), accessFlags := 18, slot := 0, constantValue := 0 }, { name := "aliases", type := (.array (.object "java/lang/String")), accessFlags := 18, slot := 1, constantValue := 0 }, { name := "aliasSet", type := (.object "java/util/Set"), accessFlags := 2, slot := 2, constantValue := 0 }]
  methods := #[]
  instanceTypes := #[(.object "java/lang/String"), (.array (.object "java/lang/String")), (.object "java/util/Set")]
  staticTypes := #[(.object "java/nio/charset/spi/CharsetProvider"), (.array (.object "java/lang/String")), (.array (.object "java/lang/Object")), (.array (.object "java/lang/Object")), (.object "java/nio/charset/Charset")]
  resolved := Array.replicate 370 none
  statics := none }

def pool17 : Array CpInfo := pool [(1, .class_ 2), (0, u "sun/nio/cs/HistoricallyNamedCharset"), (0, .class_ 4), (0, u "java/lang/Object")] 4

/-- sun/nio/cs/HistoricallyNamedCharset -/
def k17 : Class := { plain "sun/nio/cs/HistoricallyNamedCharset" (some 0) with
  accessFlags := 1537
  interfaces := #[]
  cf := some (fileOf pool17 1 #[] #[] 1537 3 #[] #[])
  fields := #[]
  methods := #[]
  instanceTypes := #[]
  staticTypes := #[]
  resolved := Array.replicate 9 none
  statics := none }

def pool18 : Array CpInfo := pool [(2, .class_ 4), (1, u "java/nio/charset/Charset"), (130, .class_ 136), (0, u "sun/nio/cs/Unicode"), (0, .class_ 138), (0, u "sun/nio/cs/HistoricallyNamedCharset")] 15

/-- sun/nio/cs/Unicode -/
def k18 : Class := { plain "sun/nio/cs/Unicode" (some 16) with
  accessFlags := 1056
  interfaces := #[17]
  cf := some (fileOf pool18 135 #[] #[] 1056 2 #[137] #[])
  fields := #[]
  methods := #[]
  instanceTypes := #[(.object "java/lang/String"), (.array (.object "java/lang/String")), (.object "java/util/Set")]
  staticTypes := #[]
  resolved := Array.replicate 154 none
  statics := none }

def pool19 : Array CpInfo := pool [(10, .class_ 12), (1, u "sun/nio/cs/Unicode"), (0, u "<init>"), (3, .class_ 18), (0, u "sun/nio/cs/UTF_8$Decoder"), (3, .class_ 23), (0, u "sun/nio/cs/UTF_8$Encoder"), (15, .class_ 40), (0, u "sun/nio/cs/UTF_8"), (2, u "()V"), (2, u "INSTANCE"), (0, u "Lsun/nio/cs/UTF_8;"), (8, u "JLA"), (0, u "Ljdk/internal/access/JavaLangAccess;")] 26

def k19m0 : Method := { name := "<init>", desc := "()V", sig := { parameters := [], returnType := none }, accessFlags := 1, code := none }
/-- sun/nio/cs/UTF_8 -/
def k19 : Class := { plain "sun/nio/cs/UTF_8" (some 18) with
  accessFlags := 49
  interfaces := #[]
  cf := some (fileOf pool19 39 #[.nestMembers #[22, 17]] #[{ accessFlags := 1, nameIndex := 13, descriptorIndex := 43, attributes := #[] }] 49 10 #[] #[{ accessFlags := 25, nameIndex := 46, descriptorIndex := 47, attributes := #[] }, { accessFlags := 26, nameIndex := 56, descriptorIndex := 57, attributes := #[] }])
  fields := #[{ name := "INSTANCE", type := (.object "sun/nio/cs/UTF_8"), accessFlags := 25, slot := 0, constantValue := 0 }, { name := "JLA", type := (.object "jdk/internal/access/JavaLangAccess"), accessFlags := 26, slot := 1, constantValue := 0 }]
  methods := #[k19m0]
  instanceTypes := #[(.object "java/lang/String"), (.array (.object "java/lang/String")), (.object "java/util/Set")]
  staticTypes := #[(.object "sun/nio/cs/UTF_8"), (.object "jdk/internal/access/JavaLangAccess")]
  resolved := Array.replicate 84 none
  statics := some 4 }

def pool20 : Array CpInfo := pool [(2, .class_ 4), (1, u "java/lang/Object"), (0, u "<init>"), (0, u "()V"), (0, .methodref 8 9), (0, .class_ 10), (0, .nameAndType 11 12), (0, u "java/lang/StringCoding"), (0, u "countPositives"), (0, u "([BII)I"), (11, u "hasNegatives"), (0, u "([BII)Z")] 23

def k20m0 : Method := { name := "<init>", desc := "()V", sig := { parameters := [], returnType := none }, accessFlags := 2, code := none }
def k20c1 : Code := { maxStack := 3, maxLocals := 3, code := jdk_123_method_2_code, exceptionTable := #[], attributes := #[] }
def k20m1 : Method := { name := "hasNegatives", desc := "([BII)Z", sig := { parameters := [(.array .byte), .int, .int], returnType := some .boolean }, accessFlags := 9, code := some k20c1 }
def k20c2 : Code := { maxStack := 2, maxLocals := 5, code := jdk_123_method_3_code, exceptionTable := #[], attributes := #[] }
def k20m2 : Method := { name := "countPositives", desc := "([BII)I", sig := { parameters := [(.array .byte), .int, .int], returnType := some .int }, accessFlags := 9, code := some k20c2 }
/-- java/lang/StringCoding -/
def k20 : Class := { plain "java/lang/StringCoding" (some 0) with
  accessFlags := 32
  interfaces := #[]
  cf := some (fileOf pool20 8 #[] #[{ accessFlags := 2, nameIndex := 5, descriptorIndex := 6, attributes := #[] }, { accessFlags := 9, nameIndex := 24, descriptorIndex := 25, attributes := #[] }, { accessFlags := 9, nameIndex := 11, descriptorIndex := 12, attributes := #[] }] 32 2 #[] #[])
  fields := #[]
  methods := #[k20m0, k20m1, k20m2]
  instanceTypes := #[]
  staticTypes := #[]
  resolved := Array.replicate 49 none
  statics := none }

def pool21 : Array CpInfo := pool [(1, .class_ 2), (0, u "java/lang/Cloneable"), (0, .class_ 4), (0, u "java/lang/Object")] 2

/-- java/lang/Cloneable -/
def k21 : Class := { plain "java/lang/Cloneable" (some 0) with
  accessFlags := 1537
  interfaces := #[]
  cf := some (fileOf pool21 1 #[] #[] 1537 3 #[] #[])
  fields := #[]
  methods := #[]
  instanceTypes := #[]
  staticTypes := #[]
  resolved := Array.replicate 7 none
  statics := none }

def pool22 : Array CpInfo := pool [(2, .class_ 4), (1, u "java/lang/Object"), (0, u "<init>"), (0, u "()V"), (7, .class_ 16), (1, u "java/util/Arrays"), (57, .class_ 76), (1, u "java/util/Arrays$NaturalOrder"), (36, .class_ 115), (1, u "java/util/Arrays$LegacyMergeSort"), (1, u "Z"), (32, .methodref 151 152), (0, .class_ 153), (0, .nameAndType 154 155), (0, u "java/lang/System"), (0, u "arraycopy"), (0, u "(Ljava/lang/Object;ILjava/lang/Object;II)V"), (146, u "copyOf"), (1, .methodref 305 306), (0, .class_ 307), (0, .nameAndType 308 309), (0, u "java/lang/Math"), (0, u "min"), (0, u "(II)I"), (65, .class_ 376), (0, u "java/util/Arrays$ArrayList"), (68, u "$assertionsDisabled"), (269, u "MIN_ARRAY_SORT_GRAN"), (0, u "I"), (2, u "INSERTIONSORT_THRESHOLD"), (149, u "([BI)[B"), (105, .class_ 976), (0, u "java/util/Arrays$ArrayItr")] 52

def k22m0 : Method := { name := "<init>", desc := "()V", sig := { parameters := [], returnType := none }, accessFlags := 2, code := none }
def k22c1 : Code := { maxStack := 6, maxLocals := 3, code := jdk_65_method_121_code, exceptionTable := #[], attributes := #[] }
def k22m1 : Method := { name := "copyOf", desc := "([BI)[B", sig := { parameters := [(.array .byte), .int], returnType := some (.array .byte) }, accessFlags := 9, code := some k22c1 }
/-- java/util/Arrays -/
def k22 : Class := { plain "java/util/Arrays" (some 0) with
  accessFlags := 49
  interfaces := #[]
  cf := some (fileOf pool22 14 #[.nestMembers #[975, 375, 113, 74]] #[{ accessFlags := 2, nameIndex := 5, descriptorIndex := 6, attributes := #[] }, { accessFlags := 9, nameIndex := 302, descriptorIndex := 869, attributes := #[] }] 49 2 #[] #[{ accessFlags := 26, nameIndex := 715, descriptorIndex := 716, attributes := #[] }, { accessFlags := 26, nameIndex := 719, descriptorIndex := 716, attributes := #[] }, { accessFlags := 4120, nameIndex := 445, descriptorIndex := 117, attributes := #[] }])
  fields := #[{ name := "MIN_ARRAY_SORT_GRAN", type := .int, accessFlags := 26, slot := 0, constantValue := 0 }, { name := "INSERTIONSORT_THRESHOLD", type := .int, accessFlags := 26, slot := 1, constantValue := 0 }, { name := "$assertionsDisabled", type := .boolean, accessFlags := 4120, slot := 2, constantValue := 0 }]
  methods := #[k22m0, k22m1]
  instanceTypes := #[]
  staticTypes := #[.int, .int, .boolean]
  resolved := Array.replicate 1029 none
  statics := none }

def pool23 : Array CpInfo := pool [(1, .class_ 2), (0, u "java/lang/Math"), (1, .class_ 6), (1, u "java/lang/Object"), (0, u "<init>"), (0, u "()V"), (89, .class_ 100), (1, u "java/lang/Math$RandomNumberGeneratorHolder"), (71, u "negativeZeroFloatBits"), (0, u "J"), (2, u "negativeZeroDoubleBits"), (24, u "min"), (43, u "$assertionsDisabled"), (0, u "Z"), (88, u "(II)I"), (2, u "twoToTheDoubleScaleDown"), (0, u "D"), (4, u "twoToTheDoubleScaleUp"), (9, u "E"), (3, u "PI"), (2, u "TAU"), (2, u "DEGREES_TO_RADIANS"), (0, u "RADIANS_TO_DEGREES")] 94

def k23m0 : Method := { name := "<init>", desc := "()V", sig := { parameters := [], returnType := none }, accessFlags := 2, code := none }
def k23c1 : Code := { maxStack := 2, maxLocals := 2, code := jdk_29_method_69_code, exceptionTable := #[], attributes := #[] }
def k23m1 : Method := { name := "min", desc := "(II)I", sig := { parameters := [.int, .int], returnType := some .int }, accessFlags := 9, code := some k23c1 }
/-- java/lang/Math -/
def k23 : Class := { plain "java/lang/Math" (some 0) with
  accessFlags := 49
  interfaces := #[]
  cf := some (fileOf pool23 1 #[.nestMembers #[98]] #[{ accessFlags := 2, nameIndex := 7, descriptorIndex := 8, attributes := #[] }, { accessFlags := 9, nameIndex := 201, descriptorIndex := 335, attributes := #[] }] 49 4 #[] #[{ accessFlags := 25, nameIndex := 354, descriptorIndex := 339, attributes := #[] }, { accessFlags := 25, nameIndex := 358, descriptorIndex := 339, attributes := #[] }, { accessFlags := 25, nameIndex := 361, descriptorIndex := 339, attributes := #[] }, { accessFlags := 26, nameIndex := 364, descriptorIndex := 339, attributes := #[] }, { accessFlags := 26, nameIndex := 365, descriptorIndex := 339, attributes := #[] }, { accessFlags := 26, nameIndex := 172, descriptorIndex := 173, attributes := #[] }, { accessFlags := 26, nameIndex := 176, descriptorIndex := 173, attributes := #[] }, { accessFlags := 8, nameIndex := 344, descriptorIndex := 339, attributes := #[] }, { accessFlags := 8, nameIndex := 338, descriptorIndex := 339, attributes := #[] }, { accessFlags := 4120, nameIndex := 245, descriptorIndex := 246, attributes := #[] }])
  fields := #[{ name := "E", type := .double, accessFlags := 25, slot := 0, constantValue := 0 }, { name := "PI", type := .double, accessFlags := 25, slot := 1, constantValue := 0 }, { name := "TAU", type := .double, accessFlags := 25, slot := 2, constantValue := 0 }, { name := "DEGREES_TO_RADIANS", type := .double, accessFlags := 26, slot := 3, constantValue := 0 }, { name := "RADIANS_TO_DEGREES", type := .double, accessFlags := 26, slot := 4, constantValue := 0 }, { name := "negativeZeroFloatBits", type := .long, accessFlags := 26, slot := 5, constantValue := 0 }, { name := "negativeZeroDoubleBits", type := .long, accessFlags := 26, slot := 6, constantValue := 0 }, { name := "twoToTheDoubleScaleUp", type := .double, accessFlags := 8, slot := 7, constantValue := 0 }, { name := "twoToTheDoubleScaleDown", type := .double, accessFlags := 8, slot := 8, constantValue := 0 }, { name := "$assertionsDisabled", type := .boolean, accessFlags := 4120, slot := 9, constantValue := 0 }]
  methods := #[k23m0, k23m1]
  instanceTypes := #[]
  staticTypes := #[.double, .double, .double, .double, .double, .long, .long, .double, .double, .boolean]
  resolved := Array.replicate 460 none
  statics := none }

def pool24 : Array CpInfo := pool [(2, .class_ 4), (1, u "java/lang/Object"), (0, u "<init>"), (0, u "()V"), (1, .class_ 10), (1, u "java/lang/System"), (0, u "allowSecurityManager"), (0, u "I"), (16, u "cons"), (0, u "Ljava/io/Console;"), (77, .class_ 110), (1, u "java/lang/System$CallersHolder"), (43, u "initialErrStream"), (0, u "Ljava/io/PrintStream;"), (19, u "security"), (0, u "Ljava/lang/SecurityManager;"), (31, .class_ 209), (0, u "java/lang/System$1"), (7, u "props"), (0, u "Ljava/util/Properties;"), (2, u "lineSeparator"), (0, u "Ljava/lang/String;"), (96, .class_ 321), (1, u "java/lang/System$LoggerFinder"), (5, .class_ 328), (0, u "java/lang/System$Logger"), (67, u "err"), (2, u "out"), (91, u "notSupportedJnuEncoding"), (15, u "in"), (17, u "initialIn"), (0, u "Ljava/io/InputStream;"), (35, u "bootLayer"), (0, u "Ljava/lang/ModuleLayer;"), (99, .class_ 664), (0, u "java/lang/System$2"), (9, u "NEVER"), (2, u "MAYBE"), (49, u "arraycopy"), (0, u "(Ljava/lang/Object;ILjava/lang/Object;II)V"), (72, .class_ 802), (0, u "java/lang/System$Logger$Level")] 31

def k24m0 : Method := { name := "<init>", desc := "()V", sig := { parameters := [], returnType := none }, accessFlags := 2, code := none }
def k24m1 : Method := { name := "arraycopy", desc := "(Ljava/lang/Object;ILjava/lang/Object;II)V", sig := { parameters := [(.object "java/lang/Object"), .int, (.object "java/lang/Object"), .int, .int], returnType := none }, accessFlags := 265, code := none }
/-- java/lang/System -/
def k24 : Class := { plain "java/lang/System" (some 0) with
  accessFlags := 49
  interfaces := #[]
  cf := some (fileOf pool24 8 #[.nestMembers #[319, 327, 801, 108, 663, 208]] #[{ accessFlags := 2, nameIndex := 5, descriptorIndex := 6, attributes := #[] }, { accessFlags := 265, nameIndex := 727, descriptorIndex := 728, attributes := #[] }] 49 2 #[] #[{ accessFlags := 25, nameIndex := 507, descriptorIndex := 526, attributes := #[] }, { accessFlags := 25, nameIndex := 399, descriptorIndex := 155, attributes := #[] }, { accessFlags := 25, nameIndex := 396, descriptorIndex := 155, attributes := #[] }, { accessFlags := 10, nameIndex := 525, descriptorIndex := 526, attributes := #[] }, { accessFlags := 26, nameIndex := 674, descriptorIndex := 12, attributes := #[] }, { accessFlags := 26, nameIndex := 677, descriptorIndex := 12, attributes := #[] }, { accessFlags := 10, nameIndex := 11, descriptorIndex := 12, attributes := #[] }, { accessFlags := 74, nameIndex := 175, descriptorIndex := 176, attributes := #[] }, { accessFlags := 10, nameIndex := 491, descriptorIndex := 222, attributes := #[] }, { accessFlags := 74, nameIndex := 29, descriptorIndex := 30, attributes := #[] }, { accessFlags := 74, nameIndex := 154, descriptorIndex := 155, attributes := #[] }, { accessFlags := 10, nameIndex := 217, descriptorIndex := 218, attributes := #[] }, { accessFlags := 10, nameIndex := 221, descriptorIndex := 222, attributes := #[] }, { accessFlags := 8, nameIndex := 562, descriptorIndex := 563, attributes := #[] }])
  fields := #[{ name := "in", type := (.object "java/io/InputStream"), accessFlags := 25, slot := 0, constantValue := 0 }, { name := "out", type := (.object "java/io/PrintStream"), accessFlags := 25, slot := 1, constantValue := 0 }, { name := "err", type := (.object "java/io/PrintStream"), accessFlags := 25, slot := 2, constantValue := 0 }, { name := "initialIn", type := (.object "java/io/InputStream"), accessFlags := 10, slot := 3, constantValue := 0 }, { name := "NEVER", type := .int, accessFlags := 26, slot := 4, constantValue := 0 }, { name := "MAYBE", type := .int, accessFlags := 26, slot := 5, constantValue := 0 }, { name := "allowSecurityManager", type := .int, accessFlags := 10, slot := 6, constantValue := 0 }, { name := "security", type := (.object "java/lang/SecurityManager"), accessFlags := 74, slot := 7, constantValue := 0 }, { name := "notSupportedJnuEncoding", type := (.object "java/lang/String"), accessFlags := 10, slot := 8, constantValue := 0 }, { name := "cons", type := (.object "java/io/Console"), accessFlags := 74, slot := 9, constantValue := 0 }, { name := "initialErrStream", type := (.object "java/io/PrintStream"), accessFlags := 74, slot := 10, constantValue := 0 }, { name := "props", type := (.object "java/util/Properties"), accessFlags := 10, slot := 11, constantValue := 0 }, { name := "lineSeparator", type := (.object "java/lang/String"), accessFlags := 10, slot := 12, constantValue := 0 }, { name := "bootLayer", type := (.object "java/lang/ModuleLayer"), accessFlags := 8, slot := 13, constantValue := 0 }]
  methods := #[k24m0, k24m1]
  instanceTypes := #[]
  staticTypes := #[(.object "java/io/InputStream"), (.object "java/io/PrintStream"), (.object "java/io/PrintStream"), (.object "java/io/InputStream"), .int, .int, .int, (.object "java/lang/SecurityManager"), (.object "java/lang/String"), (.object "java/io/Console"), (.object "java/io/PrintStream"), (.object "java/util/Properties"), (.object "java/lang/String"), (.object "java/lang/ModuleLayer")]
  resolved := Array.replicate 834 none
  statics := none }

def pool25 : Array CpInfo := pool [(9, u "<init>"), (6, .class_ 18), (1, u "java/lang/Object"), (0, u "()V"), (1, .class_ 23), (1, u "jdk/internal/util/ArraysSupport"), (0, u "LOG2_ARRAY_LONG_INDEX_SCALE"), (0, u "I"), (2, u "U"), (0, u "Ljdk/internal/misc/Unsafe;"), (8, u "BIG_ENDIAN"), (0, u "Z"), (8, u "LOG2_BYTE_BIT_SIZE"), (4, u "LOG2_ARRAY_INT_INDEX_SCALE"), (54, u "JLA"), (0, u "Ljdk/internal/access/JavaLangAccess;"), (11, u "LOG2_ARRAY_BOOLEAN_INDEX_SCALE"), (9, u "LOG2_ARRAY_BYTE_INDEX_SCALE"), (5, u "LOG2_ARRAY_CHAR_INDEX_SCALE"), (5, u "LOG2_ARRAY_SHORT_INDEX_SCALE"), (18, u "LOG2_ARRAY_FLOAT_INDEX_SCALE"), (24, u "LOG2_ARRAY_DOUBLE_INDEX_SCALE"), (89, u "T_BOOLEAN"), (2, u "T_CHAR"), (1, u "T_FLOAT"), (1, u "T_DOUBLE"), (1, u "T_BYTE"), (1, u "T_SHORT"), (1, u "T_INT"), (1, u "T_LONG"), (1, u "SOFT_MAX_ARRAY_LENGTH")] 83

def k25m0 : Method := { name := "<init>", desc := "()V", sig := { parameters := [], returnType := none }, accessFlags := 2, code := none }
/-- jdk/internal/util/ArraysSupport -/
def k25 : Class := { plain "jdk/internal/util/ArraysSupport" (some 0) with
  accessFlags := 33
  interfaces := #[]
  cf := some (fileOf pool25 21 #[] #[{ accessFlags := 2, nameIndex := 9, descriptorIndex := 19, attributes := #[] }] 33 16 #[] #[{ accessFlags := 24, nameIndex := 28, descriptorIndex := 29, attributes := #[] }, { accessFlags := 26, nameIndex := 38, descriptorIndex := 39, attributes := #[] }, { accessFlags := 25, nameIndex := 121, descriptorIndex := 25, attributes := #[] }, { accessFlags := 25, nameIndex := 131, descriptorIndex := 25, attributes := #[] }, { accessFlags := 25, nameIndex := 137, descriptorIndex := 25, attributes := #[] }, { accessFlags := 25, nameIndex := 143, descriptorIndex := 25, attributes := #[] }, { accessFlags := 25, nameIndex := 53, descriptorIndex := 25, attributes := #[] }, { accessFlags := 25, nameIndex := 24, descriptorIndex := 25, attributes := #[] }, { accessFlags := 25, nameIndex := 162, descriptorIndex := 25, attributes := #[] }, { accessFlags := 25, nameIndex := 187, descriptorIndex := 25, attributes := #[] }, { accessFlags := 26, nameIndex := 48, descriptorIndex := 25, attributes := #[] }, { accessFlags := 25, nameIndex := 277, descriptorIndex := 25, attributes := #[] }, { accessFlags := 25, nameIndex := 280, descriptorIndex := 25, attributes := #[] }, { accessFlags := 25, nameIndex := 282, descriptorIndex := 25, attributes := #[] }, { accessFlags := 25, nameIndex := 284, descriptorIndex := 25, attributes := #[] }, { accessFlags := 25, nameIndex := 286, descriptorIndex := 25, attributes := #[] }, { accessFlags := 25, nameIndex := 288, descriptorIndex := 25, attributes := #[] }, { accessFlags := 25, nameIndex := 290, descriptorIndex := 25, attributes := #[] }, { accessFlags := 25, nameIndex := 292, descriptorIndex := 25, attributes := #[] }, { accessFlags := 26, nameIndex := 108, descriptorIndex := 109, attributes := #[] }, { accessFlags := 25, nameIndex := 294, descriptorIndex := 25, attributes := #[] }])
  fields := #[{ name := "U", type := (.object "jdk/internal/misc/Unsafe"), accessFlags := 24, slot := 0, constantValue := 0 }, { name := "BIG_ENDIAN", type := .boolean, accessFlags := 26, slot := 1, constantValue := 0 }, { name := "LOG2_ARRAY_BOOLEAN_INDEX_SCALE", type := .int, accessFlags := 25, slot := 2, constantValue := 0 }, { name := "LOG2_ARRAY_BYTE_INDEX_SCALE", type := .int, accessFlags := 25, slot := 3, constantValue := 0 }, { name := "LOG2_ARRAY_CHAR_INDEX_SCALE", type := .int, accessFlags := 25, slot := 4, constantValue := 0 }, { name := "LOG2_ARRAY_SHORT_INDEX_SCALE", type := .int, accessFlags := 25, slot := 5, constantValue := 0 }, { name := "LOG2_ARRAY_INT_INDEX_SCALE", type := .int, accessFlags := 25, slot := 6, constantValue := 0 }, { name := "LOG2_ARRAY_LONG_INDEX_SCALE", type := .int, accessFlags := 25, slot := 7, constantValue := 0 }, { name := "LOG2_ARRAY_FLOAT_INDEX_SCALE", type := .int, accessFlags := 25, slot := 8, constantValue := 0 }, { name := "LOG2_ARRAY_DOUBLE_INDEX_SCALE", type := .int, accessFlags := 25, slot := 9, constantValue := 0 }, { name := "LOG2_BYTE_BIT_SIZE", type := .int, accessFlags := 26, slot := 10, constantValue := 0 }, { name := "T_BOOLEAN", type := .int, accessFlags := 25, slot := 11, constantValue := 0 }, { name := "T_CHAR", type := .int, accessFlags := 25, slot := 12, constantValue := 0 }, { name := "T_FLOAT", type := .int, accessFlags := 25, slot := 13, constantValue := 0 }, { name := "T_DOUBLE", type := .int, accessFlags := 25, slot := 14, constantValue := 0 }, { name := "T_BYTE", type := .int, accessFlags := 25, slot := 15, constantValue := 0 }, { name := "T_SHORT", type := .int, accessFlags := 25, slot := 16, constantValue := 0 }, { name := "T_INT", type := .int, accessFlags := 25, slot := 17, constantValue := 0 }, { name := "T_LONG", type := .int, accessFlags := 25, slot := 18, constantValue := 0 }, { name := "JLA", type := (.object "jdk/internal/access/JavaLangAccess"), accessFlags := 26, slot := 19, constantValue := 0 }, { name := "SOFT_MAX_ARRAY_LENGTH", type := .int, accessFlags := 25, slot := 20, constantValue := 0 }]
  methods := #[k25m0]
  instanceTypes := #[]
  staticTypes := #[(.object "jdk/internal/misc/Unsafe"), .boolean, .int, .int, .int, .int, .int, .int, .int, .int, .int, .int, .int, .int, .int, .int, .int, .int, .int, (.object "jdk/internal/access/JavaLangAccess"), .int]
  resolved := Array.replicate 378 none
  statics := none }

/-- the primitive byte -/
def k26 : Class := { plain "byte" none with kind := .primitive 'B', accessFlags := 0x411 }
/-- [B -/
def k27 : Class := { plain "[B" (some 0) with kind := .array 26 .byte, interfaces := #[21, 2], accessFlags := 1041 }

/-- the primitive char -/
def k28 : Class := { plain "char" none with kind := .primitive 'C', accessFlags := 0x411 }
/-- [C -/
def k29 : Class := { plain "[C" (some 0) with kind := .array 28 .char, interfaces := #[21, 2], accessFlags := 1041 }

/-- the primitive int -/
def k30 : Class := { plain "int" none with kind := .primitive 'I', accessFlags := 0x411 }
/-- [I -/
def k31 : Class := { plain "[I" (some 0) with kind := .array 30 .int, interfaces := #[21, 2], accessFlags := 1041 }

def heap : Heap := #[{ cls := 7, slots := #[.long 0, .int 1, .null, .int 0, .null, .int 0, .int 0], vm := .statics 7 },
  { cls := 8, slots := #[.int 0, .int 8, .int 0, .int 1], vm := .statics 8 },
  { cls := 13, slots := #[.null, .null, .null], vm := .statics 13 },
  { cls := 15, slots := #[.null, .null, .ref 5, .null, .null, .null], vm := .statics 15 },
  { cls := 19, slots := #[.ref 5, .null], vm := .statics 19 },
  { cls := 19, slots := #[.null, .null, .null], vm := .none }]
def classes : Array Class := #[k0, k1, k2, k3, k4, k5, k6, k7, k8, k9, k10, k11, k12, k13, k14, k15, k16, k17, k18, k19, k20, k21, k22, k23, k24, k25, k26, k27, k28, k29, k30, k31]
def interned : List (Array UInt16 × Addr) := []
def slotsUsed : Nat := 25
def theMethod : MethodId := ⟨1, 4⟩
def args0 : Array Value := #[.int 5, .int 6, .int 7, .int 9, .int 3, .int 4]
def aboutOver (below : List Frame) : State where
  vm := { classes := classes, interned := interned.toArray }
  heap := heap
  slotsUsed := slotsUsed
  threads := #[{ frames := .invoking theMethod args0 :: below }]
def below0 : List Frame := [.native { method := ⟨0, 0⟩, args := #[] }]
def about1 : State := aboutOver below0
def p0 : Program := .bare "" "" ""
def e0 : Env := launch0.env 0 0 0
theorem w_frames : about1.frames = Frame.invoking theMethod args0 :: below0 := rfl
set_option maxRecDepth 65536 in
theorem w_args : argsFit about1.vm theMethod args0 = true := by decide +kernel
set_option maxRecDepth 65536 in
theorem w_heap : heapFits about1 = true := by decide +kernel
set_option maxRecDepth 65536 in
theorem w_runnable : about1.curStatus? = some .runnable := by decide +kernel
set_option maxRecDepth 65536 in
theorem w_alone : about1.alone = true := by decide +kernel
set_option maxRecDepth 65536 in
theorem w_named : about1.methodNamed? x = some theMethod := by decide +kernel
set_option maxRecDepth 65536 in
theorem w_hears : about1.hears theMethod below0 = true := by decide +kernel
set_option maxRecDepth 65536 in
theorem w_ripe : about1.ripe theMethod args0 below0 = true := by decide +kernel
theorem w_running : about1.status = .running := rfl
set_option maxRecDepth 65536 in
theorem w_room : about1.hasRoom e0.platform room_1 = true :=
  launch0.hasRoom_least _ room_1 (by decide +kernel) (by decide +kernel) (by decide +kernel) (by decide +kernel) (by decide +kernel) (by decide +kernel)
theorem allAtoms_all (ts : List Jvm.Cond) (a : Array Jvm.Value) (st : Jvm.State) : (allAtoms ts).before a st = ts.all (fun c => c.before a st) := by
  induction ts with
  | nil => rfl
  | cons c t ih =>
    show (Jvm.Cond.and c (allAtoms t)).before a st = _
    rw [Jvm.Cond.before_and, ih, List.all_cons]
def words1 : List Jvm.Cond := Jvm.Cond.code x code maxLocals ret :: tables_1
/-- a 'code' word, met by the world's own term for the bytes: nothing is compared byte by byte -/
theorem code_word {y : MethodName} {bytes : ByteArray} {mx : Nat} {rt : Option FieldType} {a : Array Value} {s : State} {m : MethodId} {meth : Method} {c : Code} (h1 : s.methodNamed? y = some m) (h2 : s.vm.method? m = some meth) (h3 : meth.code = some c) (h4 : c.code = bytes)
    (h5 : (c.maxLocals == mx && c.exceptionTable.isEmpty && decide (c.maxStack ≤ mostOperands) && decide (meth.sig.returnType = rt) && !meth.locks && decide (parseMethodDescriptor y.desc = some meth.sig)) = true) : (Jvm.Cond.code y bytes mx rt).before a s = true := by
  simp only [Bool.and_eq_true, beq_iff_eq, Bool.not_eq_true', decide_eq_true_eq] at h5
  obtain ⟨⟨⟨⟨⟨g1, g2⟩, g3⟩, g4⟩, g5⟩, g6⟩ := h5
  simp [Cond.before, Cond.holds, Cond.value, h1, h2, h3, h4, g1, g2, g3, g4, g5, g6]
def isCode : Jvm.Cond → Bool
  | .code _ _ _ _ => true
  | _ => false
theorem all_split {L : List Jvm.Cond} {P : Jvm.Cond → Bool} (h1 : L.all (fun c => isCode c || P c) = true) (h2 : ∀ c ∈ L.filter isCode, P c = true) : L.all P = true := by
  refine List.all_eq_true.mpr fun c hc => ?_
  have h := List.all_eq_true.mp h1 c hc
  rcases Bool.eq_false_or_eq_true (isCode c) with hi | hi
  · exact h2 c (List.mem_filter.mpr ⟨hc, hi⟩)
  · simpa [hi] using h
set_option maxRecDepth 65536 in
theorem w_c0 : (Jvm.Cond.code x code maxLocals ret).before args0 about1 = true := code_word (m := ⟨1, 4⟩) (meth := k1m4) (c := k1c4) (by decide +kernel) rfl rfl rfl (by decide +kernel)
set_option maxRecDepth 65536 in
theorem w_c1 : (Jvm.Cond.code ({ cls := "com/example/ticks_into_totals/ticksintototals/CounterNameEqualsPinLaw", name := "idc", desc := "(I)C" } : Jvm.MethodName) method_3_code (2 : Nat) (Option.some Jvm.ClassFile.FieldType.char)).before args0 about1 = true := code_word (m := ⟨1, 2⟩) (meth := k1m2) (c := k1c2) (by decide +kernel) rfl rfl rfl (by decide +kernel)
set_option maxRecDepth 65536 in
theorem w_c2 : (Jvm.Cond.code ({ cls := "com/example/ticks_into_totals/ticksintototals/CounterNameEqualsPinLaw", name := "tok", desc := "(I)C" } : Jvm.MethodName) method_2_code (1 : Nat) (Option.some Jvm.ClassFile.FieldType.char)).before args0 about1 = true := code_word (m := ⟨1, 1⟩) (meth := k1m1) (c := k1c1) (by decide +kernel) rfl rfl rfl (by decide +kernel)
set_option maxRecDepth 65536 in
theorem w_c3 : (Jvm.Cond.code ({ cls := "com/example/ticks_into_totals/ticksintototals/CounterNameEqualsPinLaw", name := "mk", desc := "(CCI)Ljava/lang/String;" } : Jvm.MethodName) method_4_code (3 : Nat) (Option.some (Jvm.ClassFile.FieldType.object "java/lang/String"))).before args0 about1 = true := code_word (m := ⟨1, 3⟩) (meth := k1m3) (c := k1c3) (by decide +kernel) rfl rfl rfl (by decide +kernel)
set_option maxRecDepth 65536 in
theorem w_c4 : (Jvm.Cond.code ({ cls := "java/lang/String", name := "<init>", desc := "([C)V" } : Jvm.MethodName) jdk_42_method_3_code (2 : Nat) (Option.none : Option Jvm.ClassFile.FieldType)).before args0 about1 = true := code_word (m := ⟨7, 1⟩) (meth := k7m1) (c := k7c1) (by decide +kernel) rfl rfl rfl (by decide +kernel)
set_option maxRecDepth 65536 in
theorem w_c5 : (Jvm.Cond.code ({ cls := "java/lang/String", name := "<init>", desc := "([CIILjava/lang/Void;)V" } : Jvm.MethodName) jdk_42_method_149_code (6 : Nat) (Option.none : Option Jvm.ClassFile.FieldType)).before args0 about1 = true := code_word (m := ⟨7, 11⟩) (meth := k7m11) (c := k7c11) (by decide +kernel) rfl rfl rfl (by decide +kernel)
set_option maxRecDepth 65536 in
theorem w_c6 : (Jvm.Cond.code ({ cls := "java/lang/Object", name := "<init>", desc := "()V" } : Jvm.MethodName) object_method_1_code (1 : Nat) (Option.none : Option Jvm.ClassFile.FieldType)).before args0 about1 = true := code_word (m := ⟨0, 0⟩) (meth := k0m0) (c := k0c0) (by decide +kernel) rfl rfl rfl (by decide +kernel)
set_option maxRecDepth 65536 in
theorem w_c7 : (Jvm.Cond.code ({ cls := "java/lang/StringUTF16", name := "compress", desc := "([CII)[B" } : Jvm.MethodName) jdk_52_method_16_code (6 : Nat) (Option.some (Jvm.ClassFile.FieldType.array Jvm.ClassFile.FieldType.byte))).before args0 about1 = true := code_word (m := ⟨8, 10⟩) (meth := k8m10) (c := k8c10) (by decide +kernel) rfl rfl rfl (by decide +kernel)
set_option maxRecDepth 65536 in
theorem w_c8 : (Jvm.Cond.code ({ cls := "java/lang/StringUTF16", name := "compress", desc := "([CI[BII)I" } : Jvm.MethodName) jdk_52_method_21_code (7 : Nat) (Option.some Jvm.ClassFile.FieldType.int)).before args0 about1 = true := code_word (m := ⟨8, 11⟩) (meth := k8m11) (c := k8c11) (by decide +kernel) rfl rfl rfl (by decide +kernel)
set_option maxRecDepth 65536 in
theorem w_c9 : (Jvm.Cond.code ({ cls := "java/lang/StringUTF16", name := "coderFromArrayLen", desc := "([BI)B" } : Jvm.MethodName) jdk_52_method_15_code (2 : Nat) (Option.some Jvm.ClassFile.FieldType.byte)).before args0 about1 = true := code_word (m := ⟨8, 9⟩) (meth := k8m9) (c := k8c9) (by decide +kernel) rfl rfl rfl (by decide +kernel)
set_option maxRecDepth 65536 in
theorem w_c10 : (Jvm.Cond.code ({ cls := "com/example/ticks_into_totals/ticksintototals/CounterName", name := "<init>", desc := "(Ljava/lang/String;Ljava/lang/String;Ljava/lang/String;)V" } : Jvm.MethodName) prog_3_method_1_code (4 : Nat) (Option.none : Option Jvm.ClassFile.FieldType)).before args0 about1 = true := code_word (m := ⟨10, 0⟩) (meth := k10m0) (c := k10c0) (by decide +kernel) rfl rfl rfl (by decide +kernel)
set_option maxRecDepth 65536 in
theorem w_c11 : (Jvm.Cond.code ({ cls := "java/lang/Record", name := "<init>", desc := "()V" } : Jvm.MethodName) jdk_30_method_1_code (1 : Nat) (Option.none : Option Jvm.ClassFile.FieldType)).before args0 about1 = true := code_word (m := ⟨9, 0⟩) (meth := k9m0) (c := k9c0) (by decide +kernel) rfl rfl rfl (by decide +kernel)
set_option maxRecDepth 65536 in
theorem w_c12 : (Jvm.Cond.code ({ cls := "com/example/ticks_into_totals/ticksintototals/CounterName", name := "checkToken", desc := "(Ljava/lang/String;Ljava/lang/String;)Ljava/lang/String;" } : Jvm.MethodName) prog_3_method_4_code (2 : Nat) (Option.some (Jvm.ClassFile.FieldType.object "java/lang/String"))).before args0 about1 = true := code_word (m := ⟨10, 2⟩) (meth := k10m2) (c := k10c2) (by decide +kernel) rfl rfl rfl (by decide +kernel)
set_option maxRecDepth 65536 in
theorem w_c13 : (Jvm.Cond.code ({ cls := "java/util/Objects", name := "requireNonNull", desc := "(Ljava/lang/Object;Ljava/lang/String;)Ljava/lang/Object;" } : Jvm.MethodName) jdk_31_method_11_code (2 : Nat) (Option.some (Jvm.ClassFile.FieldType.object "java/lang/Object"))).before args0 about1 = true := code_word (m := ⟨11, 1⟩) (meth := k11m1) (c := k11c1) (by decide +kernel) rfl rfl rfl (by decide +kernel)
set_option maxRecDepth 65536 in
theorem w_c14 : (Jvm.Cond.code ({ cls := "java/lang/String", name := "isEmpty", desc := "()Z" } : Jvm.MethodName) jdk_42_method_55_code (1 : Nat) (Option.some Jvm.ClassFile.FieldType.boolean)).before args0 about1 = true := code_word (m := ⟨7, 6⟩) (meth := k7m6) (c := k7c6) (by decide +kernel) rfl rfl rfl (by decide +kernel)
set_option maxRecDepth 65536 in
theorem w_c15 : (Jvm.Cond.code ({ cls := "java/lang/String", name := "length", desc := "()I" } : Jvm.MethodName) jdk_42_method_54_code (1 : Nat) (Option.some Jvm.ClassFile.FieldType.int)).before args0 about1 = true := code_word (m := ⟨7, 5⟩) (meth := k7m5) (c := k7c5) (by decide +kernel) rfl rfl rfl (by decide +kernel)
set_option maxRecDepth 65536 in
theorem w_c16 : (Jvm.Cond.code ({ cls := "java/lang/String", name := "coder", desc := "()B" } : Jvm.MethodName) jdk_42_method_152_code (1 : Nat) (Option.some Jvm.ClassFile.FieldType.byte)).before args0 about1 = true := code_word (m := ⟨7, 12⟩) (meth := k7m12) (c := k7c12) (by decide +kernel) rfl rfl rfl (by decide +kernel)
set_option maxRecDepth 65536 in
theorem w_c17 : (Jvm.Cond.code ({ cls := "com/example/ticks_into_totals/ticksintototals/CounterName", name := "isToken", desc := "(Ljava/lang/String;)Z" } : Jvm.MethodName) prog_3_method_5_code (2 : Nat) (Option.some Jvm.ClassFile.FieldType.boolean)).before args0 about1 = true := code_word (m := ⟨10, 3⟩) (meth := k10m3) (c := k10c3) (by decide +kernel) rfl rfl rfl (by decide +kernel)
set_option maxRecDepth 65536 in
theorem w_c18 : (Jvm.Cond.code ({ cls := "java/lang/String", name := "charAt", desc := "(I)C" } : Jvm.MethodName) jdk_42_method_56_code (2 : Nat) (Option.some Jvm.ClassFile.FieldType.char)).before args0 about1 = true := code_word (m := ⟨7, 7⟩) (meth := k7m7) (c := k7c7) (by decide +kernel) rfl rfl rfl (by decide +kernel)
set_option maxRecDepth 65536 in
theorem w_c19 : (Jvm.Cond.code ({ cls := "java/lang/String", name := "isLatin1", desc := "()Z" } : Jvm.MethodName) jdk_42_method_154_code (1 : Nat) (Option.some Jvm.ClassFile.FieldType.boolean)).before args0 about1 = true := code_word (m := ⟨7, 13⟩) (meth := k7m13) (c := k7c13) (by decide +kernel) rfl rfl rfl (by decide +kernel)
set_option maxRecDepth 65536 in
theorem w_c20 : (Jvm.Cond.code ({ cls := "java/lang/StringLatin1", name := "charAt", desc := "([BI)C" } : Jvm.MethodName) jdk_43_method_2_code (2 : Nat) (Option.some Jvm.ClassFile.FieldType.char)).before args0 about1 = true := code_word (m := ⟨12, 1⟩) (meth := k12m1) (c := k12c1) (by decide +kernel) rfl rfl rfl (by decide +kernel)
set_option maxRecDepth 65536 in
theorem w_c21 : (Jvm.Cond.code ({ cls := "java/lang/String", name := "checkIndex", desc := "(II)V" } : Jvm.MethodName) jdk_42_method_155_code (2 : Nat) (Option.none : Option Jvm.ClassFile.FieldType)).before args0 about1 = true := code_word (m := ⟨7, 14⟩) (meth := k7m14) (c := k7c14) (by decide +kernel) rfl rfl rfl (by decide +kernel)
set_option maxRecDepth 65536 in
theorem w_c22 : (Jvm.Cond.code ({ cls := "jdk/internal/util/Preconditions", name := "checkIndex", desc := "(IILjava/util/function/BiFunction;)I" } : Jvm.MethodName) jdk_41_method_11_code (3 : Nat) (Option.some Jvm.ClassFile.FieldType.int)).before args0 about1 = true := code_word (m := ⟨13, 1⟩) (meth := k13m1) (c := k13c1) (by decide +kernel) rfl rfl rfl (by decide +kernel)
set_option maxRecDepth 65536 in
theorem w_c23 : (Jvm.Cond.code ({ cls := "com/example/ticks_into_totals/ticksintototals/CounterName", name := "isTokenChar", desc := "(C)Z" } : Jvm.MethodName) prog_3_method_6_code (1 : Nat) (Option.some Jvm.ClassFile.FieldType.boolean)).before args0 about1 = true := code_word (m := ⟨10, 4⟩) (meth := k10m4) (c := k10c4) (by decide +kernel) rfl rfl rfl (by decide +kernel)
set_option maxRecDepth 65536 in
theorem w_c24 : (Jvm.Cond.code ({ cls := "com/example/ticks_into_totals/ticksintototals/CounterName", name := "checkId", desc := "(Ljava/lang/String;)Ljava/lang/String;" } : Jvm.MethodName) prog_3_method_7_code (2 : Nat) (Option.some (Jvm.ClassFile.FieldType.object "java/lang/String"))).before args0 about1 = true := code_word (m := ⟨10, 5⟩) (meth := k10m5) (c := k10c5) (by decide +kernel) rfl rfl rfl (by decide +kernel)
set_option maxRecDepth 65536 in
theorem w_c25 : (Jvm.Cond.code ({ cls := "com/example/ticks_into_totals/ticksintototals/CounterName", name := "pairsEverySurrogate", desc := "(Ljava/lang/String;)Z" } : Jvm.MethodName) prog_3_method_8_code (3 : Nat) (Option.some Jvm.ClassFile.FieldType.boolean)).before args0 about1 = true := code_word (m := ⟨10, 6⟩) (meth := k10m6) (c := k10c6) (by decide +kernel) rfl rfl rfl (by decide +kernel)
set_option maxRecDepth 65536 in
theorem w_c26 : (Jvm.Cond.code ({ cls := "java/lang/String", name := "codePointAt", desc := "(I)I" } : Jvm.MethodName) jdk_42_method_57_code (3 : Nat) (Option.some Jvm.ClassFile.FieldType.int)).before args0 about1 = true := code_word (m := ⟨7, 8⟩) (meth := k7m8) (c := k7c8) (by decide +kernel) rfl rfl rfl (by decide +kernel)
set_option maxRecDepth 65536 in
theorem w_c27 : (Jvm.Cond.code ({ cls := "java/lang/Character", name := "charCount", desc := "(I)I" } : Jvm.MethodName) jdk_89_method_18_code (1 : Nat) (Option.some Jvm.ClassFile.FieldType.int)).before args0 about1 = true := code_word (m := ⟨14, 2⟩) (meth := k14m2) (c := k14c2) (by decide +kernel) rfl rfl rfl (by decide +kernel)
set_option maxRecDepth 65536 in
theorem w_c28 : (Jvm.Cond.code ({ cls := "java/lang/String", name := "getBytes", desc := "(Ljava/nio/charset/Charset;)[B" } : Jvm.MethodName) jdk_42_method_64_code (2 : Nat) (Option.some (Jvm.ClassFile.FieldType.array Jvm.ClassFile.FieldType.byte))).before args0 about1 = true := code_word (m := ⟨7, 9⟩) (meth := k7m9) (c := k7c9) (by decide +kernel) rfl rfl rfl (by decide +kernel)
set_option maxRecDepth 65536 in
theorem w_c29 : (Jvm.Cond.code ({ cls := "java/lang/String", name := "encode", desc := "(Ljava/nio/charset/Charset;B[B)[B" } : Jvm.MethodName) jdk_42_method_18_code (3 : Nat) (Option.some (Jvm.ClassFile.FieldType.array Jvm.ClassFile.FieldType.byte))).before args0 about1 = true := code_word (m := ⟨7, 2⟩) (meth := k7m2) (c := k7c2) (by decide +kernel) rfl rfl rfl (by decide +kernel)
set_option maxRecDepth 65536 in
theorem w_c30 : (Jvm.Cond.code ({ cls := "java/lang/String", name := "encodeUTF8", desc := "(B[BZ)[B" } : Jvm.MethodName) jdk_42_method_46_code (9 : Nat) (Option.some (Jvm.ClassFile.FieldType.array Jvm.ClassFile.FieldType.byte))).before args0 about1 = true := code_word (m := ⟨7, 3⟩) (meth := k7m3) (c := k7c3) (by decide +kernel) rfl rfl rfl (by decide +kernel)
set_option maxRecDepth 65536 in
theorem w_c31 : (Jvm.Cond.code ({ cls := "java/lang/StringCoding", name := "hasNegatives", desc := "([BII)Z" } : Jvm.MethodName) jdk_123_method_2_code (3 : Nat) (Option.some Jvm.ClassFile.FieldType.boolean)).before args0 about1 = true := code_word (m := ⟨20, 1⟩) (meth := k20m1) (c := k20c1) (by decide +kernel) rfl rfl rfl (by decide +kernel)
set_option maxRecDepth 65536 in
theorem w_c32 : (Jvm.Cond.code ({ cls := "java/lang/StringCoding", name := "countPositives", desc := "([BII)I" } : Jvm.MethodName) jdk_123_method_3_code (5 : Nat) (Option.some Jvm.ClassFile.FieldType.int)).before args0 about1 = true := code_word (m := ⟨20, 2⟩) (meth := k20m2) (c := k20c2) (by decide +kernel) rfl rfl rfl (by decide +kernel)
set_option maxRecDepth 65536 in
theorem w_c33 : (Jvm.Cond.code ({ cls := "com/example/ticks_into_totals/ticksintototals/CounterName", name := "hasControlCharacter", desc := "(Ljava/lang/String;)Z" } : Jvm.MethodName) prog_3_method_9_code (3 : Nat) (Option.some Jvm.ClassFile.FieldType.boolean)).before args0 about1 = true := code_word (m := ⟨10, 7⟩) (meth := k10m7) (c := k10c7) (by decide +kernel) rfl rfl rfl (by decide +kernel)
set_option maxRecDepth 65536 in
theorem w_c34 : (Jvm.Cond.code ({ cls := "com/example/ticks_into_totals/ticksintototals/CounterName", name := "equals", desc := "(Ljava/lang/Object;)Z" } : Jvm.MethodName) prog_3_method_2_code (3 : Nat) (Option.some Jvm.ClassFile.FieldType.boolean)).before args0 about1 = true := code_word (m := ⟨10, 1⟩) (meth := k10m1) (c := k10c1) (by decide +kernel) rfl rfl rfl (by decide +kernel)
set_option maxRecDepth 65536 in
theorem w_c35 : (Jvm.Cond.code ({ cls := "java/lang/String", name := "equals", desc := "(Ljava/lang/Object;)Z" } : Jvm.MethodName) jdk_42_method_66_code (3 : Nat) (Option.some Jvm.ClassFile.FieldType.boolean)).before args0 about1 = true := code_word (m := ⟨7, 10⟩) (meth := k7m10) (c := k7c10) (by decide +kernel) rfl rfl rfl (by decide +kernel)
set_option maxRecDepth 65536 in
theorem w_c36 : (Jvm.Cond.code ({ cls := "java/lang/StringUTF16", name := "toBytes", desc := "([CII)[B" } : Jvm.MethodName) jdk_52_method_14_code (5 : Nat) (Option.some (Jvm.ClassFile.FieldType.array Jvm.ClassFile.FieldType.byte))).before args0 about1 = true := code_word (m := ⟨8, 8⟩) (meth := k8m8) (c := k8c8) (by decide +kernel) rfl rfl rfl (by decide +kernel)
set_option maxRecDepth 65536 in
theorem w_c37 : (Jvm.Cond.code ({ cls := "java/lang/StringUTF16", name := "newBytesFor", desc := "(I)[B" } : Jvm.MethodName) jdk_52_method_2_code (1 : Nat) (Option.some (Jvm.ClassFile.FieldType.array Jvm.ClassFile.FieldType.byte))).before args0 about1 = true := code_word (m := ⟨8, 1⟩) (meth := k8m1) (c := k8c1) (by decide +kernel) rfl rfl rfl (by decide +kernel)
set_option maxRecDepth 65536 in
theorem w_c38 : (Jvm.Cond.code ({ cls := "java/lang/StringUTF16", name := "newBytesLength", desc := "(I)I" } : Jvm.MethodName) jdk_52_method_3_code (1 : Nat) (Option.some Jvm.ClassFile.FieldType.int)).before args0 about1 = true := code_word (m := ⟨8, 2⟩) (meth := k8m2) (c := k8c2) (by decide +kernel) rfl rfl rfl (by decide +kernel)
set_option maxRecDepth 65536 in
theorem w_c39 : (Jvm.Cond.code ({ cls := "java/lang/StringUTF16", name := "putChar", desc := "([BII)V" } : Jvm.MethodName) jdk_52_method_4_code (3 : Nat) (Option.none : Option Jvm.ClassFile.FieldType)).before args0 about1 = true := code_word (m := ⟨8, 3⟩) (meth := k8m3) (c := k8c3) (by decide +kernel) rfl rfl rfl (by decide +kernel)
set_option maxRecDepth 65536 in
theorem w_c40 : (Jvm.Cond.code ({ cls := "java/lang/StringUTF16", name := "getChar", desc := "([BI)C" } : Jvm.MethodName) jdk_52_method_5_code (2 : Nat) (Option.some Jvm.ClassFile.FieldType.char)).before args0 about1 = true := code_word (m := ⟨8, 4⟩) (meth := k8m4) (c := k8c4) (by decide +kernel) rfl rfl rfl (by decide +kernel)
set_option maxRecDepth 65536 in
theorem w_c41 : (Jvm.Cond.code ({ cls := "java/lang/StringUTF16", name := "codePointAt", desc := "([BII)I" } : Jvm.MethodName) jdk_52_method_8_code (3 : Nat) (Option.some Jvm.ClassFile.FieldType.int)).before args0 about1 = true := code_word (m := ⟨8, 7⟩) (meth := k8m7) (c := k8c7) (by decide +kernel) rfl rfl rfl (by decide +kernel)
set_option maxRecDepth 65536 in
theorem w_c42 : (Jvm.Cond.code ({ cls := "java/lang/StringUTF16", name := "codePointAt", desc := "([BIIZ)I" } : Jvm.MethodName) jdk_52_method_7_code (6 : Nat) (Option.some Jvm.ClassFile.FieldType.int)).before args0 about1 = true := code_word (m := ⟨8, 6⟩) (meth := k8m6) (c := k8c6) (by decide +kernel) rfl rfl rfl (by decide +kernel)
set_option maxRecDepth 65536 in
theorem w_c43 : (Jvm.Cond.code ({ cls := "java/lang/Character", name := "isHighSurrogate", desc := "(C)Z" } : Jvm.MethodName) jdk_89_method_14_code (1 : Nat) (Option.some Jvm.ClassFile.FieldType.boolean)).before args0 about1 = true := code_word (m := ⟨14, 0⟩) (meth := k14m0) (c := k14c0) (by decide +kernel) rfl rfl rfl (by decide +kernel)
set_option maxRecDepth 65536 in
theorem w_c44 : (Jvm.Cond.code ({ cls := "java/lang/String", name := "encodeUTF8_UTF16", desc := "([BZ)[B" } : Jvm.MethodName) jdk_42_method_47_code (9 : Nat) (Option.some (Jvm.ClassFile.FieldType.array Jvm.ClassFile.FieldType.byte))).before args0 about1 = true := code_word (m := ⟨7, 4⟩) (meth := k7m4) (c := k7c4) (by decide +kernel) rfl rfl rfl (by decide +kernel)
set_option maxRecDepth 65536 in
theorem w_c45 : (Jvm.Cond.code ({ cls := "java/lang/Character", name := "isSurrogate", desc := "(C)Z" } : Jvm.MethodName) jdk_89_method_16_code (1 : Nat) (Option.some Jvm.ClassFile.FieldType.boolean)).before args0 about1 = true := code_word (m := ⟨14, 1⟩) (meth := k14m1) (c := k14c1) (by decide +kernel) rfl rfl rfl (by decide +kernel)
set_option maxRecDepth 65536 in
theorem w_c46 : (Jvm.Cond.code ({ cls := "java/lang/StringUTF16", name := "charAt", desc := "([BI)C" } : Jvm.MethodName) jdk_52_method_83_code (2 : Nat) (Option.some Jvm.ClassFile.FieldType.char)).before args0 about1 = true := code_word (m := ⟨8, 12⟩) (meth := k8m12) (c := k8c12) (by decide +kernel) rfl rfl rfl (by decide +kernel)
set_option maxRecDepth 65536 in
theorem w_c47 : (Jvm.Cond.code ({ cls := "java/lang/StringUTF16", name := "checkIndex", desc := "(I[B)V" } : Jvm.MethodName) jdk_52_method_91_code (2 : Nat) (Option.none : Option Jvm.ClassFile.FieldType)).before args0 about1 = true := code_word (m := ⟨8, 13⟩) (meth := k8m13) (c := k8c13) (by decide +kernel) rfl rfl rfl (by decide +kernel)
set_option maxRecDepth 65536 in
theorem w_c48 : (Jvm.Cond.code ({ cls := "java/lang/StringUTF16", name := "length", desc := "([B)I" } : Jvm.MethodName) jdk_52_method_6_code (1 : Nat) (Option.some Jvm.ClassFile.FieldType.int)).before args0 about1 = true := code_word (m := ⟨8, 5⟩) (meth := k8m5) (c := k8c5) (by decide +kernel) rfl rfl rfl (by decide +kernel)
set_option maxRecDepth 65536 in
theorem w_c49 : (Jvm.Cond.code ({ cls := "java/lang/StringLatin1", name := "equals", desc := "([B[B)Z" } : Jvm.MethodName) jdk_43_method_13_code (3 : Nat) (Option.some Jvm.ClassFile.FieldType.boolean)).before args0 about1 = true := code_word (m := ⟨12, 2⟩) (meth := k12m2) (c := k12c2) (by decide +kernel) rfl rfl rfl (by decide +kernel)
set_option maxRecDepth 65536 in
theorem w_c50 : (Jvm.Cond.code ({ cls := "java/util/Arrays", name := "copyOf", desc := "([BI)[B" } : Jvm.MethodName) jdk_65_method_121_code (3 : Nat) (Option.some (Jvm.ClassFile.FieldType.array Jvm.ClassFile.FieldType.byte))).before args0 about1 = true := code_word (m := ⟨22, 1⟩) (meth := k22m1) (c := k22c1) (by decide +kernel) rfl rfl rfl (by decide +kernel)
set_option maxRecDepth 65536 in
theorem w_c51 : (Jvm.Cond.code ({ cls := "java/lang/Math", name := "min", desc := "(II)I" } : Jvm.MethodName) jdk_29_method_69_code (2 : Nat) (Option.some Jvm.ClassFile.FieldType.int)).before args0 about1 = true := code_word (m := ⟨23, 1⟩) (meth := k23m1) (c := k23c1) (by decide +kernel) rfl rfl rfl (by decide +kernel)
def codes1 : List Jvm.Cond := [Jvm.Cond.code x code maxLocals ret, Jvm.Cond.code ({ cls := "com/example/ticks_into_totals/ticksintototals/CounterNameEqualsPinLaw", name := "idc", desc := "(I)C" } : Jvm.MethodName) method_3_code (2 : Nat) (Option.some Jvm.ClassFile.FieldType.char), Jvm.Cond.code ({ cls := "com/example/ticks_into_totals/ticksintototals/CounterNameEqualsPinLaw", name := "tok", desc := "(I)C" } : Jvm.MethodName) method_2_code (1 : Nat) (Option.some Jvm.ClassFile.FieldType.char), Jvm.Cond.code ({ cls := "com/example/ticks_into_totals/ticksintototals/CounterNameEqualsPinLaw", name := "mk", desc := "(CCI)Ljava/lang/String;" } : Jvm.MethodName) method_4_code (3 : Nat) (Option.some (Jvm.ClassFile.FieldType.object "java/lang/String")), Jvm.Cond.code ({ cls := "java/lang/String", name := "<init>", desc := "([C)V" } : Jvm.MethodName) jdk_42_method_3_code (2 : Nat) (Option.none : Option Jvm.ClassFile.FieldType), Jvm.Cond.code ({ cls := "java/lang/String", name := "<init>", desc := "([CIILjava/lang/Void;)V" } : Jvm.MethodName) jdk_42_method_149_code (6 : Nat) (Option.none : Option Jvm.ClassFile.FieldType), Jvm.Cond.code ({ cls := "java/lang/Object", name := "<init>", desc := "()V" } : Jvm.MethodName) object_method_1_code (1 : Nat) (Option.none : Option Jvm.ClassFile.FieldType), Jvm.Cond.code ({ cls := "java/lang/StringUTF16", name := "compress", desc := "([CII)[B" } : Jvm.MethodName) jdk_52_method_16_code (6 : Nat) (Option.some (Jvm.ClassFile.FieldType.array Jvm.ClassFile.FieldType.byte)), Jvm.Cond.code ({ cls := "java/lang/StringUTF16", name := "compress", desc := "([CI[BII)I" } : Jvm.MethodName) jdk_52_method_21_code (7 : Nat) (Option.some Jvm.ClassFile.FieldType.int), Jvm.Cond.code ({ cls := "java/lang/StringUTF16", name := "coderFromArrayLen", desc := "([BI)B" } : Jvm.MethodName) jdk_52_method_15_code (2 : Nat) (Option.some Jvm.ClassFile.FieldType.byte), Jvm.Cond.code ({ cls := "com/example/ticks_into_totals/ticksintototals/CounterName", name := "<init>", desc := "(Ljava/lang/String;Ljava/lang/String;Ljava/lang/String;)V" } : Jvm.MethodName) prog_3_method_1_code (4 : Nat) (Option.none : Option Jvm.ClassFile.FieldType), Jvm.Cond.code ({ cls := "java/lang/Record", name := "<init>", desc := "()V" } : Jvm.MethodName) jdk_30_method_1_code (1 : Nat) (Option.none : Option Jvm.ClassFile.FieldType), Jvm.Cond.code ({ cls := "com/example/ticks_into_totals/ticksintototals/CounterName", name := "checkToken", desc := "(Ljava/lang/String;Ljava/lang/String;)Ljava/lang/String;" } : Jvm.MethodName) prog_3_method_4_code (2 : Nat) (Option.some (Jvm.ClassFile.FieldType.object "java/lang/String")), Jvm.Cond.code ({ cls := "java/util/Objects", name := "requireNonNull", desc := "(Ljava/lang/Object;Ljava/lang/String;)Ljava/lang/Object;" } : Jvm.MethodName) jdk_31_method_11_code (2 : Nat) (Option.some (Jvm.ClassFile.FieldType.object "java/lang/Object")), Jvm.Cond.code ({ cls := "java/lang/String", name := "isEmpty", desc := "()Z" } : Jvm.MethodName) jdk_42_method_55_code (1 : Nat) (Option.some Jvm.ClassFile.FieldType.boolean), Jvm.Cond.code ({ cls := "java/lang/String", name := "length", desc := "()I" } : Jvm.MethodName) jdk_42_method_54_code (1 : Nat) (Option.some Jvm.ClassFile.FieldType.int), Jvm.Cond.code ({ cls := "java/lang/String", name := "coder", desc := "()B" } : Jvm.MethodName) jdk_42_method_152_code (1 : Nat) (Option.some Jvm.ClassFile.FieldType.byte), Jvm.Cond.code ({ cls := "com/example/ticks_into_totals/ticksintototals/CounterName", name := "isToken", desc := "(Ljava/lang/String;)Z" } : Jvm.MethodName) prog_3_method_5_code (2 : Nat) (Option.some Jvm.ClassFile.FieldType.boolean), Jvm.Cond.code ({ cls := "java/lang/String", name := "charAt", desc := "(I)C" } : Jvm.MethodName) jdk_42_method_56_code (2 : Nat) (Option.some Jvm.ClassFile.FieldType.char), Jvm.Cond.code ({ cls := "java/lang/String", name := "isLatin1", desc := "()Z" } : Jvm.MethodName) jdk_42_method_154_code (1 : Nat) (Option.some Jvm.ClassFile.FieldType.boolean), Jvm.Cond.code ({ cls := "java/lang/StringLatin1", name := "charAt", desc := "([BI)C" } : Jvm.MethodName) jdk_43_method_2_code (2 : Nat) (Option.some Jvm.ClassFile.FieldType.char), Jvm.Cond.code ({ cls := "java/lang/String", name := "checkIndex", desc := "(II)V" } : Jvm.MethodName) jdk_42_method_155_code (2 : Nat) (Option.none : Option Jvm.ClassFile.FieldType), Jvm.Cond.code ({ cls := "jdk/internal/util/Preconditions", name := "checkIndex", desc := "(IILjava/util/function/BiFunction;)I" } : Jvm.MethodName) jdk_41_method_11_code (3 : Nat) (Option.some Jvm.ClassFile.FieldType.int), Jvm.Cond.code ({ cls := "com/example/ticks_into_totals/ticksintototals/CounterName", name := "isTokenChar", desc := "(C)Z" } : Jvm.MethodName) prog_3_method_6_code (1 : Nat) (Option.some Jvm.ClassFile.FieldType.boolean), Jvm.Cond.code ({ cls := "com/example/ticks_into_totals/ticksintototals/CounterName", name := "checkId", desc := "(Ljava/lang/String;)Ljava/lang/String;" } : Jvm.MethodName) prog_3_method_7_code (2 : Nat) (Option.some (Jvm.ClassFile.FieldType.object "java/lang/String")), Jvm.Cond.code ({ cls := "com/example/ticks_into_totals/ticksintototals/CounterName", name := "pairsEverySurrogate", desc := "(Ljava/lang/String;)Z" } : Jvm.MethodName) prog_3_method_8_code (3 : Nat) (Option.some Jvm.ClassFile.FieldType.boolean), Jvm.Cond.code ({ cls := "java/lang/String", name := "codePointAt", desc := "(I)I" } : Jvm.MethodName) jdk_42_method_57_code (3 : Nat) (Option.some Jvm.ClassFile.FieldType.int), Jvm.Cond.code ({ cls := "java/lang/Character", name := "charCount", desc := "(I)I" } : Jvm.MethodName) jdk_89_method_18_code (1 : Nat) (Option.some Jvm.ClassFile.FieldType.int), Jvm.Cond.code ({ cls := "java/lang/String", name := "getBytes", desc := "(Ljava/nio/charset/Charset;)[B" } : Jvm.MethodName) jdk_42_method_64_code (2 : Nat) (Option.some (Jvm.ClassFile.FieldType.array Jvm.ClassFile.FieldType.byte)), Jvm.Cond.code ({ cls := "java/lang/String", name := "encode", desc := "(Ljava/nio/charset/Charset;B[B)[B" } : Jvm.MethodName) jdk_42_method_18_code (3 : Nat) (Option.some (Jvm.ClassFile.FieldType.array Jvm.ClassFile.FieldType.byte)), Jvm.Cond.code ({ cls := "java/lang/String", name := "encodeUTF8", desc := "(B[BZ)[B" } : Jvm.MethodName) jdk_42_method_46_code (9 : Nat) (Option.some (Jvm.ClassFile.FieldType.array Jvm.ClassFile.FieldType.byte)), Jvm.Cond.code ({ cls := "java/lang/StringCoding", name := "hasNegatives", desc := "([BII)Z" } : Jvm.MethodName) jdk_123_method_2_code (3 : Nat) (Option.some Jvm.ClassFile.FieldType.boolean), Jvm.Cond.code ({ cls := "java/lang/StringCoding", name := "countPositives", desc := "([BII)I" } : Jvm.MethodName) jdk_123_method_3_code (5 : Nat) (Option.some Jvm.ClassFile.FieldType.int), Jvm.Cond.code ({ cls := "com/example/ticks_into_totals/ticksintototals/CounterName", name := "hasControlCharacter", desc := "(Ljava/lang/String;)Z" } : Jvm.MethodName) prog_3_method_9_code (3 : Nat) (Option.some Jvm.ClassFile.FieldType.boolean), Jvm.Cond.code ({ cls := "com/example/ticks_into_totals/ticksintototals/CounterName", name := "equals", desc := "(Ljava/lang/Object;)Z" } : Jvm.MethodName) prog_3_method_2_code (3 : Nat) (Option.some Jvm.ClassFile.FieldType.boolean), Jvm.Cond.code ({ cls := "java/lang/String", name := "equals", desc := "(Ljava/lang/Object;)Z" } : Jvm.MethodName) jdk_42_method_66_code (3 : Nat) (Option.some Jvm.ClassFile.FieldType.boolean), Jvm.Cond.code ({ cls := "java/lang/StringUTF16", name := "toBytes", desc := "([CII)[B" } : Jvm.MethodName) jdk_52_method_14_code (5 : Nat) (Option.some (Jvm.ClassFile.FieldType.array Jvm.ClassFile.FieldType.byte)), Jvm.Cond.code ({ cls := "java/lang/StringUTF16", name := "newBytesFor", desc := "(I)[B" } : Jvm.MethodName) jdk_52_method_2_code (1 : Nat) (Option.some (Jvm.ClassFile.FieldType.array Jvm.ClassFile.FieldType.byte)), Jvm.Cond.code ({ cls := "java/lang/StringUTF16", name := "newBytesLength", desc := "(I)I" } : Jvm.MethodName) jdk_52_method_3_code (1 : Nat) (Option.some Jvm.ClassFile.FieldType.int), Jvm.Cond.code ({ cls := "java/lang/StringUTF16", name := "putChar", desc := "([BII)V" } : Jvm.MethodName) jdk_52_method_4_code (3 : Nat) (Option.none : Option Jvm.ClassFile.FieldType), Jvm.Cond.code ({ cls := "java/lang/StringUTF16", name := "getChar", desc := "([BI)C" } : Jvm.MethodName) jdk_52_method_5_code (2 : Nat) (Option.some Jvm.ClassFile.FieldType.char), Jvm.Cond.code ({ cls := "java/lang/StringUTF16", name := "codePointAt", desc := "([BII)I" } : Jvm.MethodName) jdk_52_method_8_code (3 : Nat) (Option.some Jvm.ClassFile.FieldType.int), Jvm.Cond.code ({ cls := "java/lang/StringUTF16", name := "codePointAt", desc := "([BIIZ)I" } : Jvm.MethodName) jdk_52_method_7_code (6 : Nat) (Option.some Jvm.ClassFile.FieldType.int), Jvm.Cond.code ({ cls := "java/lang/Character", name := "isHighSurrogate", desc := "(C)Z" } : Jvm.MethodName) jdk_89_method_14_code (1 : Nat) (Option.some Jvm.ClassFile.FieldType.boolean), Jvm.Cond.code ({ cls := "java/lang/String", name := "encodeUTF8_UTF16", desc := "([BZ)[B" } : Jvm.MethodName) jdk_42_method_47_code (9 : Nat) (Option.some (Jvm.ClassFile.FieldType.array Jvm.ClassFile.FieldType.byte)), Jvm.Cond.code ({ cls := "java/lang/Character", name := "isSurrogate", desc := "(C)Z" } : Jvm.MethodName) jdk_89_method_16_code (1 : Nat) (Option.some Jvm.ClassFile.FieldType.boolean), Jvm.Cond.code ({ cls := "java/lang/StringUTF16", name := "charAt", desc := "([BI)C" } : Jvm.MethodName) jdk_52_method_83_code (2 : Nat) (Option.some Jvm.ClassFile.FieldType.char), Jvm.Cond.code ({ cls := "java/lang/StringUTF16", name := "checkIndex", desc := "(I[B)V" } : Jvm.MethodName) jdk_52_method_91_code (2 : Nat) (Option.none : Option Jvm.ClassFile.FieldType), Jvm.Cond.code ({ cls := "java/lang/StringUTF16", name := "length", desc := "([B)I" } : Jvm.MethodName) jdk_52_method_6_code (1 : Nat) (Option.some Jvm.ClassFile.FieldType.int), Jvm.Cond.code ({ cls := "java/lang/StringLatin1", name := "equals", desc := "([B[B)Z" } : Jvm.MethodName) jdk_43_method_13_code (3 : Nat) (Option.some Jvm.ClassFile.FieldType.boolean), Jvm.Cond.code ({ cls := "java/util/Arrays", name := "copyOf", desc := "([BI)[B" } : Jvm.MethodName) jdk_65_method_121_code (3 : Nat) (Option.some (Jvm.ClassFile.FieldType.array Jvm.ClassFile.FieldType.byte)), Jvm.Cond.code ({ cls := "java/lang/Math", name := "min", desc := "(II)I" } : Jvm.MethodName) jdk_29_method_69_code (2 : Nat) (Option.some Jvm.ClassFile.FieldType.int)]
set_option maxRecDepth 65536 in
theorem codes_eq : words1.filter isCode = codes1 := rfl
theorem w_codes : ∀ c ∈ words1.filter isCode, c.before args0 about1 = true := by
  rw [codes_eq]
  intro c hc
  simp only [codes1, List.mem_cons, List.not_mem_nil, or_false] at hc
  rcases hc with rfl | rfl | rfl | rfl | rfl | rfl | rfl | rfl | rfl | rfl | rfl | rfl | rfl | rfl | rfl | rfl | rfl | rfl | rfl | rfl | rfl | rfl | rfl | rfl | rfl | rfl | rfl | rfl | rfl | rfl | rfl | rfl | rfl | rfl | rfl | rfl | rfl | rfl | rfl | rfl | rfl | rfl | rfl | rfl | rfl | rfl | rfl | rfl | rfl | rfl | rfl | rfl
  · exact w_c0
  · exact w_c1
  · exact w_c2
  · exact w_c3
  · exact w_c4
  · exact w_c5
  · exact w_c6
  · exact w_c7
  · exact w_c8
  · exact w_c9
  · exact w_c10
  · exact w_c11
  · exact w_c12
  · exact w_c13
  · exact w_c14
  · exact w_c15
  · exact w_c16
  · exact w_c17
  · exact w_c18
  · exact w_c19
  · exact w_c20
  · exact w_c21
  · exact w_c22
  · exact w_c23
  · exact w_c24
  · exact w_c25
  · exact w_c26
  · exact w_c27
  · exact w_c28
  · exact w_c29
  · exact w_c30
  · exact w_c31
  · exact w_c32
  · exact w_c33
  · exact w_c34
  · exact w_c35
  · exact w_c36
  · exact w_c37
  · exact w_c38
  · exact w_c39
  · exact w_c40
  · exact w_c41
  · exact w_c42
  · exact w_c43
  · exact w_c44
  · exact w_c45
  · exact w_c46
  · exact w_c47
  · exact w_c48
  · exact w_c49
  · exact w_c50
  · exact w_c51
set_option maxRecDepth 65536 in
theorem w_t1 : (words1.take 24).all (fun c => isCode c || c.before args0 about1) = true := by decide +kernel
set_option maxRecDepth 65536 in
theorem w_t2 : ((words1.drop 24).take 24).all (fun c => isCode c || c.before args0 about1) = true := by decide +kernel
set_option maxRecDepth 65536 in
theorem w_t3 : (((words1.drop 24).drop 24).take 24).all (fun c => isCode c || c.before args0 about1) = true := by decide +kernel
set_option maxRecDepth 65536 in
theorem w_t4 : ((((words1.drop 24).drop 24).drop 24).take 24).all (fun c => isCode c || c.before args0 about1) = true := by decide +kernel
set_option maxRecDepth 65536 in
theorem w_t5 : (((((words1.drop 24).drop 24).drop 24).drop 24).take 24).all (fun c => isCode c || c.before args0 about1) = true := by decide +kernel
set_option maxRecDepth 65536 in
theorem w_t6 : ((((((words1.drop 24).drop 24).drop 24).drop 24).drop 24).take 24).all (fun c => isCode c || c.before args0 about1) = true := by decide +kernel
set_option maxRecDepth 65536 in
theorem w_t7 : (((((((words1.drop 24).drop 24).drop 24).drop 24).drop 24).drop 24).take 24).all (fun c => isCode c || c.before args0 about1) = true := by decide +kernel
set_option maxRecDepth 65536 in
theorem w_t8 : ((((((((words1.drop 24).drop 24).drop 24).drop 24).drop 24).drop 24).drop 24).take 24).all (fun c => isCode c || c.before args0 about1) = true := by decide +kernel
set_option maxRecDepth 65536 in
theorem w_t9 : (((((((((words1.drop 24).drop 24).drop 24).drop 24).drop 24).drop 24).drop 24).drop 24).take 24).all (fun c => isCode c || c.before args0 about1) = true := by decide +kernel
set_option maxRecDepth 65536 in
theorem w_t10 : ((((((((((words1.drop 24).drop 24).drop 24).drop 24).drop 24).drop 24).drop 24).drop 24).drop 24).take 24).all (fun c => isCode c || c.before args0 about1) = true := by decide +kernel
set_option maxRecDepth 65536 in
theorem w_t11 : ((((((((((words1.drop 24).drop 24).drop 24).drop 24).drop 24).drop 24).drop 24).drop 24).drop 24).drop 24).all (fun c => isCode c || c.before args0 about1) = true := by decide +kernel
theorem w_tables : (allAtoms (Jvm.Cond.code x code maxLocals ret :: tables_1)).before args0 about1 = true := by
  rw [allAtoms_all]
  show words1.all (fun c => c.before args0 about1) = true
  refine all_split ?_ w_codes
  rw [← List.take_append_drop 24 words1, List.all_append, w_t1, ← List.take_append_drop 24 (words1.drop 24), List.all_append, w_t2, ← List.take_append_drop 24 ((words1.drop 24).drop 24), List.all_append, w_t3, ← List.take_append_drop 24 (((words1.drop 24).drop 24).drop 24), List.all_append, w_t4, ← List.take_append_drop 24 ((((words1.drop 24).drop 24).drop 24).drop 24), List.all_append, w_t5, ← List.take_append_drop 24 (((((words1.drop 24).drop 24).drop 24).drop 24).drop 24), List.all_append, w_t6, ← List.take_append_drop 24 ((((((words1.drop 24).drop 24).drop 24).drop 24).drop 24).drop 24), List.all_append, w_t7, ← List.take_append_drop 24 (((((((words1.drop 24).drop 24).drop 24).drop 24).drop 24).drop 24).drop 24), List.all_append, w_t8, ← List.take_append_drop 24 ((((((((words1.drop 24).drop 24).drop 24).drop 24).drop 24).drop 24).drop 24).drop 24), List.all_append, w_t9, ← List.take_append_drop 24 (((((((((words1.drop 24).drop 24).drop 24).drop 24).drop 24).drop 24).drop 24).drop 24).drop 24), List.all_append, w_t10, w_t11]
  rfl
set_option maxRecDepth 65536 in
theorem w_rest : rest_1_c.before args0 about1 = true := by decide +kernel
set_option maxRecDepth 65536 in
theorem w_case : (Jvm.Cond.and given_1 narrow_1).before args0 about1 = true := by decide +kernel
theorem w_applies : (headSpec (Jvm.Cond.code x code maxLocals ret :: tables_1) room_1).applies x e0.platform about1 = true :=
  (Spec.applies_iff w_frames).mpr ⟨w_running, w_runnable, w_alone, w_named, w_hears, w_ripe, w_room, w_tables⟩
theorem atStart : AtStart classFile x code maxLocals ret World_1 tables_1 room_1 Calls_1 rest_1 Pre_1 launch0 p0 e0 about1 theMethod args0 below0 :=
  ⟨lists_1, trivial, launch0.admits_env _ _ _, launch0.least_env, fairChoices_fair.cas, fairChoices_fair.clock, w_frames, w_args, w_heap, w_applies, trivial, w_rest, w_case⟩
end start1
theorem witness_1 : WitnessClaimed_1 := ⟨start1.p0, start1.e0, start1.about1, start1.theMethod, start1.args0, start1.below0, start1.atStart⟩
end Jvm.Pilot.@@N@@
