import JvmDerived
import JvmDerived.Pilot.@@N@@Statement
import JvmDerived.Pilot.@@N@@Code
set_option linter.unusedVariables false
set_option linter.unusedSimpArgs false


namespace Jvm.RoadKit
open Sem ClassFile Op Lib Jvm.Stand Jvm.Free Jvm.LawKit
section Own
variable {Z : State} {h h0 h' : Heap} {a b : Addr} {k : ClassId} {n j : Int32} {vs : List Value} {dv : Value}
theorem Arv.inb {ty : FieldType} (A : Arv Z h a k ty n vs dv) (h1 : ¬ j < 0) (h2 : j < n) : ∃ c, Arr Z h a c ty ∧ c.cls = k ∧ c.slots.size = n.toNatClampNeg ∧ ¬ n < 0 ∧ Has c vs dv ∧ (∀ i, i < c.slots.size → fits ty (vs.getD i dv) = true) ∧ ¬ (j < 0 ∨ c.slots.size ≤ j.toNatClampNeg) := by
  obtain ⟨c, A1, A2, A3, A4, A5, A6⟩ := A
  exact ⟨c, A1, A2, A3, A4, A5, A6, inb_of A3 ⟨h1, h2⟩⟩
theorem Ext.keepN (E : Ext h0 h) (K : Keep h h' [b]) (q : h0.size ≤ b) : Ext h0 h' := ⟨Nat.le_trans E.1 K.1, fun x c hx => K.2.1 x c (E.2 x c hx) fun z => by
  cases List.mem_singleton.mp z
  exact absurd (Array.getElem?_eq_some_iff.mp hx).1 (Nat.not_lt.mpr q)⟩
theorem Ext.keepL {ws : List Addr} (E : Ext h0 h) (K : Keep h h' ws) (q : ∀ x ∈ ws, h0.size ≤ x) : Ext h0 h' := ⟨Nat.le_trans E.1 K.1, fun x c hx => K.2.1 x c (E.2 x c hx) fun z => absurd (Array.getElem?_eq_some_iff.mp hx).1 (Nat.not_lt.mpr (q x z))⟩
theorem Ext.rfl' : Ext h h := ⟨Nat.le_refl _, fun _ _ q => q⟩
theorem Ext.tr {h1 : Heap} (E : Ext h h1) (E' : Ext h1 h') : Ext h h' := ⟨Nat.le_trans E.1 E'.1, fun x c q => E'.2 x c (E.2 x c q)⟩
theorem Ext.wrN {sl : Nat} {v : Value} (E : Ext h0 h) (W : Wr h h' a sl v) (q : h0.size ≤ a) : Ext h0 h' := E.keepN (Keep.of_wr W) q
end Own
end Jvm.RoadKit

namespace Jvm.OwnKit
open Sem ClassFile Op Lib Jvm.Stand Jvm.Free Jvm.LawKit Jvm.RoadKit
/-- the String constants that the walk has loaded, each with its object (none: not kept) -/
abbrev Sg : Type := Option (List (String × Nat × String × Addr))
def VOk (Z : State) (vm : Vm) : Sg → Prop
  | none => True
  | some L => IB Z vm (L.map fun q => q.2.2.1) ∧ ∀ q ∈ L, Lit (Z.setVm vm) q.1 q.2.1 q.2.2.2
theorem VOk.warm {Z s : State} {vm0 vm1 : Vm} {σ : Sg} (V : VOk Z vm0 σ) (hW : (s.setVm vm0).WarmedH vm1) : VOk Z vm1 σ := by
  cases σ with
  | none => trivial
  | some L =>
    obtain ⟨⟨more, e, hm⟩, hl⟩ := V
    refine ⟨⟨more, ?_, hm⟩, fun q hq => ?_⟩
    · rw [hW.interned_eq]; exact e
    · have h1 : Lit (s.setVm vm0) q.1 q.2.1 q.2.2.2 := hl q hq
      exact Lit.stays h1 hW.wide
/-- the unsigned shifts, the comparing of longs, as the machine spells them -/
abbrev ushr (x y : Int32) : Int32 := (x.toUInt32 >>> (y &&& 31).toUInt32).toInt32
abbrev ushrL (x : Int64) (y : Int32) : Int64 := (x.toUInt64 >>> (y &&& 63).toInt64.toUInt64).toInt64
abbrev cmpL (x y : Int64) : Int32 := if x > y then 1 else if x = y then 0 else -1
/-- the data of one walk of one body -/
abbrev Cx : Type := Program × Launch × Env × Room × State × MethodId × Array Value × List Frame × Method × Code × State × Nat × (Option Value → Heap → Sg → Prop)
/-- from this pc, these locals, this stack and this heap the body comes to its end as promised -/
def Go : Cx → Sg → Heap → Nat → Nat → Nat → Array Slot → List Value → Prop
  | (p, l, e, R, s, m, args, below, meth, c, Z, n0, Q), σ, h, ce, sl, pc, ls, st =>
    ∀ (vm0 : Vm) (k0 : Nat) (T : State) (locs : List Loc), Stand p l e R (s.setVm vm0) m args below meth c T locs ce sl → s.Since vm0 k0 → k0 ≤ h.size → VOk Z vm0 σ → Old Z n0 h → T.heap = h → Fr n0 locs →
      ∃ (s₂ : State) (o : Outcome), Steps p.tables e below (T.setTop (mkF m pc ls st)) s₂ ∧ s₂.status = .running ∧ Ended s₂ below o ∧
        ∃ (v : Option Value) (L : List Loc) (σ' : Sg), o = .returned v ∧ (Fr n0 L ∧ VOk Z s₂.vm σ' ∧ Old Z n0 s₂.heap ∧ Q v s₂.heap σ') ∧ ReturnedEndW s o s₂ L R.cells R.slots
/-- what is known of a walk's data -/
def Amb : Cx → Launch → State → MethodName → ByteArray → Nat → Option FieldType → Room → Heap → Nat → (Option Value → Heap → Sg → Prop) → Prop
  | (p, l', e, R, s, m, args, below, meth, c, Z', n0', Q'), l, Z, y, code, maxL, ret, rm, h0, n0, Q =>
    l' = l ∧ R = rm ∧ Z' = Z ∧ n0' = n0 ∧ (∀ v h σ, Q v h σ → Q' v h σ) ∧ p.tables.exec = Jvm.exec ∧ Z.Warmed39 s.vm ∧ s.vm.findClass y.cls = some m.cls ∧ c.code = code ∧ c.maxLocals = maxL ∧ meth.sig.returnType = ret ∧ meth.locks = false ∧ meth.name = y.name ∧ s.heap = h0
/-- a body's contract -/
def Con (l : Launch) (Z : State) (y : MethodName) (code : ByteArray) (maxL : Nat) (ret : Option FieldType) (rm : Room) (ws : List Jvm.Cond) (as : Array Value) (σ : Sg) (h0 : Heap) (n0 : Nat) (Q : Option Value → Heap → Sg → Prop) : Prop :=
  MetFree l y (head1 (Jvm.Cond.code y code maxL ret :: ws) rm) (fun a U => a = as ∧ Z.Warmed39 U.vm ∧ U.heap = h0 ∧ VOk Z U.vm σ ∧ Old Z n0 U.heap) (fun _ _ _ _ _ => True)
    (fun _ U o U' => ∃ v L σ', o = .returned v ∧ (Fr n0 L ∧ VOk Z U'.vm σ' ∧ Old Z n0 U'.heap ∧ Q v U'.heap σ') ∧ ReturnedEndW U o U' L rm.cells rm.slots)
section Rules
variable {κ : Cx} {l : Launch} {Z : State} {y : MethodName} {code : ByteArray} {maxL : Nat} {ret : Option FieldType} {rm : Room} {ws : List Jvm.Cond} {as a0 : Array Value} {σ : Sg} {h h0 h' : Heap} {n0 : Nat} {Q Q' : Option Value → Heap → Sg → Prop} {ce sl ce' sl' pc pc' pc2 : Nat} {ls ls' : Array Slot} {st st' rest : List Value}
theorem Con.of_go (hpl : plainFor y = true) (hef : ∀ m, entryFrame m as maxL = mkF m 0 ls []) (H : ∀ κ : Cx, Amb κ l Z y code maxL ret rm h0 n0 Q → Go κ σ h0 0 0 0 ls []) : Con l Z y code maxL ret rm ws as σ h0 n0 Q := by
  refine MetFree.of_bodySF hpl hisR ?_
  intro p e s m args below meth c s₁ Bd hml0 hP hK
  obtain ⟨rfl, hZ, hh, hV, hO⟩ := hP
  have X0 : Stand p l e rm s m args below meth c s₁ [] 0 0 := Stand.of_body Bd
  have e0 : s₁.heap = h0 := by rw [← hh, Bd.state]; rfl
  obtain ⟨s₂, o, hst, hr, he, hq⟩ := H (p, l, e, rm, s, m, args, below, meth, c, Z, n0, Q) ⟨rfl, rfl, rfl, rfl, fun _ _ _ q => q, Bd.exec, hZ, findClass_of_methodNamed Bd.named, Bd.bytes, hml0, Bd.returns, BodyLoose.notSynchronized Bd, (name_of_methodNamed Bd.named Bd.method).1, hh⟩ s.vm h0.size s₁ [] X0 ((State.WarmedH.refl s).since _) (Nat.le_refl _) hV (hh ▸ hO) e0 (Fr.nil _)
  exact ⟨s₂, o, castTop (hef m) hst, hr, he, hq⟩
theorem Con.mono (M : Con l Z y code maxL ret rm ws as σ h0 n0 Q) (hq : ∀ v h σ, Q v h σ → Q' v h σ) : Con l Z y code maxL ret rm ws as σ h0 n0 Q' := by
  intro p e a1 a2 a3 s m args below a4 a5 a6 a7
  obtain ⟨n, o, b1, b2, b3, v, L, σ', b4, b5, b6⟩ := M p e a1 a2 a3 s m args below a4 a5 a6 a7
  exact ⟨n, o, b1, b2, b3, v, L, σ', b4, ⟨b5.1, b5.2.1, b5.2.2.1, hq _ _ _ b5.2.2.2⟩, b6⟩
theorem Go.pure (D : Amb κ l Z y code maxL ret rm h0 n0 Q)
    (f : ∀ (p : Program) (e : Env) (below : List Frame) (T t : State) (m : MethodId) (c : Code), p.tables.exec = Jvm.exec → c.code = code → At T m c below → Steps p.tables e below (T.setTop (mkF m pc' ls' st')) t → Steps p.tables e below (T.setTop (mkF m pc ls st)) t)
    (G : Go κ σ h ce sl pc' ls' st') : Go κ σ h ce sl pc ls st := by
  obtain ⟨p, l', e, R, s, m, args, below, meth, c, Z', n0', Q'⟩ := κ
  obtain ⟨rfl, rfl, rfl, rfl, hQ, hx, hZ, hown, hby, hml, hret, hlk, hnm, hh⟩ := D
  intro vm0 k0 T locs X hS hk V O eT N
  obtain ⟨s₂, o, h1, h2⟩ := G vm0 k0 T locs X hS hk V O eT N
  exact ⟨s₂, o, f p e below T s₂ m c hx hby X.here h1, h2⟩
/-- a step that asks the walk's standing, the heap as it was -/
theorem Go.calm (D : Amb κ l Z y code maxL ret rm h0 n0 Q)
    (f : ∀ (p : Program) (e : Env) (s : State) (m : MethodId) (args : Array Value) (below : List Frame) (meth : Method) (c : Code) (T : State) (locs : List Loc), p.tables.exec = Jvm.exec → Z.Warmed39 s.vm → s.vm.findClass y.cls = some m.cls → c.code = code → c.maxLocals = maxL → s.heap = h0 → Stand p l e rm s m args below meth c T locs ce sl → T.heap = h → ∃ T', Stand p l e rm s m args below meth c T' locs ce sl ∧ T'.heap = h ∧ ∀ t, Steps p.tables e below (T'.setTop (mkF m pc' ls' st')) t → Steps p.tables e below (T.setTop (mkF m pc ls st)) t)
    (G : Go κ σ h ce sl pc' ls' st') : Go κ σ h ce sl pc ls st := by
  obtain ⟨p, l', e, R, s, m, args, below, meth, c, Z', n0', Q'⟩ := κ
  obtain ⟨rfl, rfl, rfl, rfl, hQ, hx, hZ, hown, hby, hml, hret, hlk, hnm, hh⟩ := D
  intro vm0 k0 T locs X hS hk V O eT N
  obtain ⟨T', X', eT', k⟩ := f p e (s.setVm vm0) m args below meth c T locs hx (State.Warmed39.trans (t := s) hZ hS.1) (by show vm0.findClass _ = _; rw [hS.1.alike.findClass]; exact hown) hby hml hh X eT
  obtain ⟨s₂, o, h1, h2⟩ := G vm0 k0 T' locs X' hS hk V O eT' N
  exact ⟨s₂, o, k _ h1, h2⟩
/-- what a step may write -/
def Gw (h h' : Heap) (n0 : Nat) : Prop := ∃ ws : List Addr, Keep h h' ws ∧ ∀ x ∈ ws, n0 ≤ x
theorem Gw.ext (E : Ext h h') : Gw h h' n0 := ⟨[], (Keep.refl _ _).ext E, fun _ q => nomatch q⟩
theorem Gw.one {a : Addr} (K : Keep h h' [a]) (q : n0 ≤ a) : Gw h h' n0 := ⟨[a], K, fun x z => by cases List.mem_singleton.mp z; exact q⟩
/-- a step that turns the heap -/
theorem Go.turn (D : Amb κ l Z y code maxL ret rm h0 n0 Q) {P : Heap → Prop}
    (f : ∀ (p : Program) (e : Env) (s : State) (m : MethodId) (args : Array Value) (below : List Frame) (meth : Method) (c : Code) (T : State) (locs : List Loc), p.tables.exec = Jvm.exec → Z.Warmed39 s.vm → s.vm.findClass y.cls = some m.cls → c.code = code → c.maxLocals = maxL → meth.name = y.name → Stand p l e rm s m args below meth c T locs ce sl → T.heap = h → Fr n0 locs → ∃ T' locs' h', Stand p l e rm s m args below meth c T' locs' ce' sl' ∧ T'.heap = h' ∧ Fr n0 locs' ∧ Gw h h' n0 ∧ P h' ∧ ∀ t, Steps p.tables e below (T'.setTop (mkF m pc' ls' st')) t → Steps p.tables e below (T.setTop (mkF m pc ls st)) t)
    (G : ∀ h', P h' → Go κ σ h' ce' sl' pc' ls' st') : Go κ σ h ce sl pc ls st := by
  obtain ⟨p, l', e, R, s, m, args, below, meth, c, Z', n0', Q'⟩ := κ
  obtain ⟨rfl, rfl, rfl, rfl, hQ, hx, hZ, hown, hby, hml, hret, hlk, hnm, hh⟩ := D
  intro vm0 k0 T locs X hS hk V O eT N
  obtain ⟨T', locs', h', X', eT', N', ⟨ws, K, hws⟩, hP, k⟩ := f p e (s.setVm vm0) m args below meth c T locs hx (State.Warmed39.trans (t := s) hZ hS.1) (by show vm0.findClass _ = _; rw [hS.1.alike.findClass]; exact hown) hby hml hnm X eT N
  obtain ⟨s₂, o, h1, h2⟩ := G h' hP vm0 k0 T' locs' X' hS (Nat.le_trans hk K.1) V (O.keep K hws) eT' N'
  exact ⟨s₂, o, k _ h1, h2⟩
theorem sd_mono {p : Program} {e : Env} {R : Room} {s : State} {m : MethodId} {args : Array Value} {below : List Frame} {meth : Method} {c : Code} {T : State} {locs : List Loc} (X : Stand p l e R s m args below meth c T locs ce sl) (h1 : ce ≤ ce') (h2 : sl ≤ sl') : Stand p l e R s m args below meth c T locs ce' sl' :=
  { X with same := X.same.mono h1 h2 }
theorem Go.up (h1 : ce ≤ ce') (h2 : sl ≤ sl') (G : Go κ σ h ce' sl' pc ls st) : Go κ σ h ce sl pc ls st := by
  obtain ⟨p, l', e, R, s, m, args, below, meth, c, Z', n0', Q'⟩ := κ
  intro vm0 k0 T locs X hS hk V O eT N
  exact G vm0 k0 T locs (sd_mono X h1 h2) hS hk V O eT N
/-- the walk's hidden knowledge: the heap at the start stands -/
theorem Go.old (D : Amb κ l Z y code maxL ret rm h0 n0 Q) (G : Old Z n0 h → Go κ σ h ce sl pc ls st) : Go κ σ h ce sl pc ls st := by
  obtain ⟨p, l', e, R, s, m, args, below, meth, c, Z', n0', Q'⟩ := κ
  obtain ⟨rfl, rfl, rfl, rfl, hQ, hx, hZ, hown, hby, hml, hret, hlk, hnm, hh⟩ := D
  intro vm0 k0 T locs X hS hk V O eT N
  exact G O vm0 k0 T locs X hS hk V O eT N
theorem Go.getS (D : Amb κ l Z y code maxL ret rm h0 n0 Q) {idx : Nat} {n d O : String} {v : Value} (w : (Jvm.Cond.fieldLink y.cls idx O n d).before a0 Z = true) (hd : decode code pc = .ok (.getstatic idx, 3)) (hp : pc + 3 = pc') (F : Sta Z Z.heap O n d v) (G : Go κ σ h ce sl pc' ls (v :: st)) : Go κ σ h ce sl pc ls st := by
  subst hp
  refine Go.old D fun O' => ?_
  exact Go.calm D (fun p e s m args below meth c T locs hx hZ hown hby hml hh X eT => Jvm.RoadKit.getS (host := "") X hx hZ hown w Via.refl eT (F.ext O'.2) (g := mkF m pc ls st) rfl (hb hby hd)) G
/-! returns -/
theorem Go.ret1 (D : Amb κ l Z y code maxL ret rm h0 n0 Q) {i : Instr} {t : FieldType} {w : Value} (hret' : ret = some t) (hn : narrow t w = w)
    (hi : (i = .ireturn ∧ (t = .int ∨ t = .boolean ∨ t = .byte ∨ t = .char ∨ t = .short) ∧ ∃ z, w = .int z) ∨ (i = .lreturn ∧ t = .long ∧ ∃ z, w = .long z) ∨ (i = .dreturn ∧ t = .double ∧ ∃ z, w = .double z) ∨ (i = .freturn ∧ t = .float ∧ ∃ z, w = .float z) ∨ (i = .areturn ∧ t.isReference = true ∧ w.isRef = true))
    (hd : decode code pc = .ok (i, 1)) (hc : ce ≤ rm.cells) (hs : sl ≤ rm.slots) (q : Q (some w) h σ) : Go κ σ h ce sl pc ls (w :: rest) := by
  obtain ⟨p, l', e, R, s, m, args, below, meth, c, Z', n0', Q'⟩ := κ
  obtain ⟨rfl, rfl, rfl, rfl, hQ, hx, hZ, hown, hby, hml, hret, hlk, hnm, hh⟩ := D
  intro vm0 k0 T locs X hS hk V O eT N
  have hr2 : meth.sig.returnType = some t := hret.trans hret'
  obtain ⟨fs, hr, hrun, hended, hW⟩ := X.leaveW hS (by rw [eT]; exact hk) (v := some w) (fun h => by rw [hr2] at h; cases h) hlk
  refine ⟨_, _, retOut X hx hr2 hn hi (hb hby hd) hr, hrun, hended, _, _, σ, rfl, ⟨N, V.warm X.warmed, ?_, hQ _ _ _ ?_⟩, hW.1, hW.2.1, hW.2.2.1, hW.2.2.2.mono hc hs⟩
  · show Old _ _ T.heap
    rw [eT]; exact O
  · show Q (some w) T.heap σ
    rw [eT]; exact q
theorem Go.iret (D : Amb κ l Z y code maxL ret rm h0 n0 Q) {x : Int32} (hret' : ret = some .int) (hd : decode code pc = .ok (.ireturn, 1)) (hc : ce ≤ rm.cells) (hs : sl ≤ rm.slots) (q : Q (some (.int x)) h σ) : Go κ σ h ce sl pc ls (.int x :: rest) :=
  Go.ret1 D hret' rfl (Or.inl ⟨rfl, Or.inl rfl, _, rfl⟩) hd hc hs q
theorem Go.zret (D : Amb κ l Z y code maxL ret rm h0 n0 Q) {x : Int32} (hret' : ret = some .boolean) (hx : narrow .boolean (.int x) = .int x) (hd : decode code pc = .ok (.ireturn, 1)) (hc : ce ≤ rm.cells) (hs : sl ≤ rm.slots) (q : Q (some (.int x)) h σ) : Go κ σ h ce sl pc ls (.int x :: rest) :=
  Go.ret1 D hret' hx (Or.inl ⟨rfl, Or.inr (Or.inl rfl), _, rfl⟩) hd hc hs q
theorem Go.cret (D : Amb κ l Z y code maxL ret rm h0 n0 Q) {x : Int32} (hret' : ret = some .char) (hx : narrow .char (.int x) = .int x) (hd : decode code pc = .ok (.ireturn, 1)) (hc : ce ≤ rm.cells) (hs : sl ≤ rm.slots) (q : Q (some (.int x)) h σ) : Go κ σ h ce sl pc ls (.int x :: rest) :=
  Go.ret1 D hret' hx (Or.inl ⟨rfl, Or.inr (Or.inr (Or.inr (Or.inl rfl))), _, rfl⟩) hd hc hs q
theorem Go.bret (D : Amb κ l Z y code maxL ret rm h0 n0 Q) {x : Int32} (hret' : ret = some .byte) (hx : narrow .byte (.int x) = .int x) (hd : decode code pc = .ok (.ireturn, 1)) (hc : ce ≤ rm.cells) (hs : sl ≤ rm.slots) (q : Q (some (.int x)) h σ) : Go κ σ h ce sl pc ls (.int x :: rest) :=
  Go.ret1 D hret' hx (Or.inl ⟨rfl, Or.inr (Or.inr (Or.inl rfl)), _, rfl⟩) hd hc hs q
theorem Go.aret (D : Amb κ l Z y code maxL ret rm h0 n0 Q) {t : FieldType} {a : Addr} (hret' : ret = some t) (ht : t.isReference = true) (hn : narrow t (.ref a) = .ref a) (hd : decode code pc = .ok (.areturn, 1)) (hc : ce ≤ rm.cells) (hs : sl ≤ rm.slots) (q : Q (some (.ref a)) h σ) : Go κ σ h ce sl pc ls (.ref a :: rest) :=
  Go.ret1 D hret' hn (Or.inr (Or.inr (Or.inr (Or.inr ⟨rfl, ht, rfl⟩)))) hd hc hs q
theorem Go.lret (D : Amb κ l Z y code maxL ret rm h0 n0 Q) {x : Int64} (hret' : ret = some .long) (hd : decode code pc = .ok (.lreturn, 1)) (hc : ce ≤ rm.cells) (hs : sl ≤ rm.slots) (q : Q (some (.long x)) h σ) : Go κ σ h ce sl pc ls (.long x :: rest) :=
  Go.ret1 D hret' rfl (Or.inr (Or.inl ⟨rfl, rfl, _, rfl⟩)) hd hc hs q
theorem Go.vret (D : Amb κ l Z y code maxL ret rm h0 n0 Q) (hret' : ret = none) (hd : decode code pc = .ok (.return_, 1)) (hc : ce ≤ rm.cells) (hs : sl ≤ rm.slots) (q : Q none h σ) : Go κ σ h ce sl pc ls [] := by
  obtain ⟨p, l', e, R, s, m, args, below, meth, c, Z', n0', Q'⟩ := κ
  obtain ⟨rfl, rfl, rfl, rfl, hQ, hx, hZ, hown, hby, hml, hret, hlk, hnm, hh⟩ := D
  intro vm0 k0 T locs X hS hk V O eT N
  have hr2 : meth.sig.returnType = none := hret.trans hret'
  obtain ⟨fs, hr, hrun, hended, hW⟩ := X.leaveW hS (by rw [eT]; exact hk) (v := none) (fun _ => rfl) hlk
  refine ⟨_, _, X.returnOut hx hr2 (hb hby hd) hr, hrun, hended, _, _, σ, rfl, ⟨N, V.warm X.warmed, ?_, hQ _ _ _ ?_⟩, hW.1, hW.2.1, hW.2.2.1, hW.2.2.2.mono hc hs⟩
  · show Old _ _ T.heap
    rw [eT]; exact O
  · show Q none T.heap σ
    rw [eT]; exact q
/-! branches -/
def cy : ClassFile.Cond → Int32 → Int32 → Prop
  | .eq, x, y => x = y
  | .ne, x, y => ¬ x = y
  | .lt, x, y => x < y
  | .ge, x, y => ¬ x < y
  | .gt, x, y => y < x
  | .le, x, y => ¬ y < x
def cn : ClassFile.Cond → Int32 → Int32 → Prop
  | .eq, x, y => ¬ x = y
  | .ne, x, y => x = y
  | .lt, x, y => ¬ x < y
  | .ge, x, y => x < y
  | .gt, x, y => ¬ y < x
  | .le, x, y => y < x
theorem icmp_dec (cd : ClassFile.Cond) (x y : Int32) : (if_icmp.holds cd x y = true ∧ cy cd x y) ∨ (if_icmp.holds cd x y = false ∧ cn cd x y) := by
  cases cd <;> simp only [if_icmp.holds, cy, cn, beq_iff_eq, bne_iff_ne, ne_eq, decide_eq_true_eq, decide_eq_false_iff_not, beq_eq_false_iff_ne, bne_eq_false_iff_eq, Int32.not_lt, gt_iff_lt, ge_iff_le, Int32.not_le]
  · by_cases q : x = y <;> simp [q]
  · by_cases q : x = y <;> simp [q]
  · rcases Int32.lt_or_le x y with q | q <;> simp [q]
  · rcases Int32.lt_or_le x y with q | q <;> simp [q]
  · rcases Int32.lt_or_le y x with q | q <;> simp [q]
  · rcases Int32.lt_or_le y x with q | q <;> simp [q]
theorem ifc_dec (cd : ClassFile.Cond) (x : Int32) : (ifCond.holds cd x = true ∧ cy cd x 0) ∨ (ifCond.holds cd x = false ∧ cn cd x 0) := by
  cases cd <;> simp only [ifCond.holds, cy, cn, beq_iff_eq, bne_iff_ne, ne_eq, decide_eq_true_eq, decide_eq_false_iff_not, beq_eq_false_iff_ne, bne_eq_false_iff_eq, Int32.not_lt, gt_iff_lt, ge_iff_le, Int32.not_le]
  · by_cases q : x = 0 <;> simp [q]
  · by_cases q : x = 0 <;> simp [q]
  · rcases Int32.lt_or_le x 0 with q | q <;> simp [q]
  · rcases Int32.lt_or_le x 0 with q | q <;> simp [q]
  · rcases Int32.lt_or_le 0 x with q | q <;> simp [q]
  · rcases Int32.lt_or_le 0 x with q | q <;> simp [q]
theorem Go.ifc (D : Amb κ l Z y code maxL ret rm h0 n0 Q) {cd : ClassFile.Cond} {o : Int} {x : Int32} (hd : decode code pc = .ok (.ifCond cd o, 3)) (ho : 0 ≤ (pc : Int) + o) (hp : ((pc : Int) + o).toNat = pc') (hp2 : pc + 3 = pc2)
    (Gt : cy cd x 0 → Go κ σ h ce sl pc' ls rest) (Gf : cn cd x 0 → Go κ σ h ce sl pc2 ls rest) : Go κ σ h ce sl pc ls (.int x :: rest) := by
  subst hp2
  rcases ifc_dec cd x with ⟨q1, q2⟩ | ⟨q1, q2⟩
  · exact Go.pure D (fun p e below T t m c hx hby hT k => XS.ifYes hT hx rfl rfl (hb hby hd) rfl q1 ho hp k) (Gt q2)
  · exact Go.pure D (fun p e below T t m c hx hby hT k => XS.ifNo hT hx rfl (hb hby hd) rfl q1 k) (Gf q2)
theorem Go.icmp (D : Amb κ l Z y code maxL ret rm h0 n0 Q) {cd : ClassFile.Cond} {o : Int} {x z : Int32} (hd : decode code pc = .ok (.if_icmp cd o, 3)) (ho : 0 ≤ (pc : Int) + o) (hp : ((pc : Int) + o).toNat = pc') (hp2 : pc + 3 = pc2)
    (Gt : cy cd x z → Go κ σ h ce sl pc' ls rest) (Gf : cn cd x z → Go κ σ h ce sl pc2 ls rest) : Go κ σ h ce sl pc ls (.int z :: .int x :: rest) := by
  subst hp2
  rcases icmp_dec cd x z with ⟨q1, q2⟩ | ⟨q1, q2⟩
  · exact Go.pure D (fun p e below T t m c hx hby hT k => XS.icmpYes hT hx rfl rfl (hb hby hd) rfl q1 ho hp k) (Gt q2)
  · exact Go.pure D (fun p e below T t m c hx hby hT k => XS.icmpNo hT hx rfl (hb hby hd) rfl q1 k) (Gf q2)
theorem Go.iloadN (D : Amb κ l Z y code maxL ret rm h0 n0 Q) {k : Fin 4} {v : Int32} (hd : decode code pc = .ok (.iload_n k, 1)) (hp : pc + 1 = pc') (hl : ls[k.val]? = some (.val (.int v))) (G : Go κ σ h ce sl pc' ls (.int v :: st)) : Go κ σ h ce sl pc ls (st) := by
  subst hp
  exact Go.pure D (fun p e below T t m c hx hby hT k' => XS.iloadN hT hx rfl (hb hby hd) hl k') G
theorem Go.iload (D : Amb κ l Z y code maxL ret rm h0 n0 Q) {k : Nat} {v : Int32} (hd : decode code pc = .ok (.iload k, 2)) (hp : pc + 2 = pc') (hl : ls[k]? = some (.val (.int v))) (G : Go κ σ h ce sl pc' ls (.int v :: st)) : Go κ σ h ce sl pc ls (st) := by
  subst hp
  exact Go.pure D (fun p e below T t m c hx hby hT k' => XS.iload hT hx rfl (hb hby hd) hl k') G
theorem Go.aloadN (D : Amb κ l Z y code maxL ret rm h0 n0 Q) {k : Fin 4} {v : Value} (hd : decode code pc = .ok (.aload_n k, 1)) (hp : pc + 1 = pc') (hl : ls[k.val]? = some (.val v)) (hv : v.isRef = true) (G : Go κ σ h ce sl pc' ls (v :: st)) : Go κ σ h ce sl pc ls (st) := by
  subst hp
  exact Go.pure D (fun p e below T t m c hx hby hT k' => XS.aloadN hT hx rfl (hb hby hd) hl hv k') G
theorem Go.aload (D : Amb κ l Z y code maxL ret rm h0 n0 Q) {k : Nat} {v : Value} (hd : decode code pc = .ok (.aload k, 2)) (hp : pc + 2 = pc') (hl : ls[k]? = some (.val v)) (hv : v.isRef = true) (G : Go κ σ h ce sl pc' ls (v :: st)) : Go κ σ h ce sl pc ls (st) := by
  subst hp
  exact Go.pure D (fun p e below T t m c hx hby hT k' => XS.aload hT hx rfl (hb hby hd) hl hv k') G
theorem Go.lloadN (D : Amb κ l Z y code maxL ret rm h0 n0 Q) {k : Fin 4} {v : Int64} (hd : decode code pc = .ok (.lload_n k, 1)) (hp : pc + 1 = pc') (hl : ls[k.val]? = some (.val (.long v))) (G : Go κ σ h ce sl pc' ls (.long v :: st)) : Go κ σ h ce sl pc ls (st) := by
  subst hp
  exact Go.pure D (fun p e below T t m c hx hby hT k' => XS.lloadN hT hx rfl (hb hby hd) hl k') G
theorem Go.lload (D : Amb κ l Z y code maxL ret rm h0 n0 Q) {k : Nat} {v : Int64} (hd : decode code pc = .ok (.lload k, 2)) (hp : pc + 2 = pc') (hl : ls[k]? = some (.val (.long v))) (G : Go κ σ h ce sl pc' ls (.long v :: st)) : Go κ σ h ce sl pc ls (st) := by
  subst hp
  exact Go.pure D (fun p e below T t m c hx hby hT k' => XS.lload hT hx rfl (hb hby hd) hl k') G
theorem Go.iconst (D : Amb κ l Z y code maxL ret rm h0 n0 Q) {i : Int} {v : Int32} (hd : decode code pc = .ok (.iconst i, 1)) (hp : pc + 1 = pc') (hv : Int32.ofInt i = v) (G : Go κ σ h ce sl pc' ls (.int v :: st)) : Go κ σ h ce sl pc ls (st) := by
  subst hp hv
  exact Go.pure D (fun p e below T t m c hx hby hT k' => XS.iconst hT hx rfl (hb hby hd) k') G
theorem Go.bipush (D : Amb κ l Z y code maxL ret rm h0 n0 Q) {i : Int} {v : Int32} (hd : decode code pc = .ok (.bipush i, 2)) (hp : pc + 2 = pc') (hv : (Int8.ofInt i).toInt32 = v) (G : Go κ σ h ce sl pc' ls (.int v :: st)) : Go κ σ h ce sl pc ls (st) := by
  subst hp hv
  exact Go.pure D (fun p e below T t m c hx hby hT k' => XS.bipush hT hx rfl (hb hby hd) k') G
theorem Go.sipush (D : Amb κ l Z y code maxL ret rm h0 n0 Q) {i : Int} {v : Int32} (hd : decode code pc = .ok (.sipush i, 3)) (hp : pc + 3 = pc') (hv : (Int16.ofInt i).toInt32 = v) (G : Go κ σ h ce sl pc' ls (.int v :: st)) : Go κ σ h ce sl pc ls (st) := by
  subst hp hv
  exact Go.pure D (fun p e below T t m c hx hby hT k' => XS.sipush hT hx rfl (hb hby hd) k') G
theorem Go.lconst (D : Amb κ l Z y code maxL ret rm h0 n0 Q) {k : Fin 2} {v : Int64} (hd : decode code pc = .ok (.lconst k, 1)) (hp : pc + 1 = pc') (hv : Int64.ofNat k = v) (G : Go κ σ h ce sl pc' ls (.long v :: st)) : Go κ σ h ce sl pc ls (st) := by
  subst hp hv
  exact Go.pure D (fun p e below T t m c hx hby hT k' => XS.lconst hT hx rfl (hb hby hd) k') G
theorem Go.aconstNull (D : Amb κ l Z y code maxL ret rm h0 n0 Q)  (hd : decode code pc = .ok (.aconst_null, 1)) (hp : pc + 1 = pc')  (G : Go κ σ h ce sl pc' ls (.null :: st)) : Go κ σ h ce sl pc ls (st) := by
  subst hp
  exact Go.pure D (fun p e below T t m c hx hby hT k' => XS.aconstNull hT hx rfl (hb hby hd) k') G
theorem Go.iadd (D : Amb κ l Z y code maxL ret rm h0 n0 Q) {x z : Int32} (hd : decode code pc = .ok (.iadd, 1)) (hp : pc + 1 = pc')  (G : Go κ σ h ce sl pc' ls (.int (x + z) :: rest)) : Go κ σ h ce sl pc ls (.int z :: .int x :: rest) := by
  subst hp
  exact Go.pure D (fun p e below T t m c hx hby hT k' => XS.iadd hT hx rfl (hb hby hd) rfl k') G
theorem Go.isub (D : Amb κ l Z y code maxL ret rm h0 n0 Q) {x z : Int32} (hd : decode code pc = .ok (.isub, 1)) (hp : pc + 1 = pc')  (G : Go κ σ h ce sl pc' ls (.int (x - z) :: rest)) : Go κ σ h ce sl pc ls (.int z :: .int x :: rest) := by
  subst hp
  exact Go.pure D (fun p e below T t m c hx hby hT k' => XS.isub hT hx rfl (hb hby hd) rfl k') G
theorem Go.iand (D : Amb κ l Z y code maxL ret rm h0 n0 Q) {x z : Int32} (hd : decode code pc = .ok (.iand, 1)) (hp : pc + 1 = pc')  (G : Go κ σ h ce sl pc' ls (.int (x &&& z) :: rest)) : Go κ σ h ce sl pc ls (.int z :: .int x :: rest) := by
  subst hp
  exact Go.pure D (fun p e below T t m c hx hby hT k' => XS.iand hT hx rfl (hb hby hd) rfl k') G
theorem Go.imul (D : Amb κ l Z y code maxL ret rm h0 n0 Q) {x z : Int32} (hd : decode code pc = .ok (.imul, 1)) (hp : pc + 1 = pc')  (G : Go κ σ h ce sl pc' ls (.int (x * z) :: rest)) : Go κ σ h ce sl pc ls (.int z :: .int x :: rest) := by
  subst hp
  exact Go.pure D (fun p e below T t m c hx hby hT k' => XS.imul hT hx rfl (hb hby hd) rfl k') G
theorem Go.ixor (D : Amb κ l Z y code maxL ret rm h0 n0 Q) {x z : Int32} (hd : decode code pc = .ok (.ixor, 1)) (hp : pc + 1 = pc')  (G : Go κ σ h ce sl pc' ls (.int (x ^^^ z) :: rest)) : Go κ σ h ce sl pc ls (.int z :: .int x :: rest) := by
  subst hp
  exact Go.pure D (fun p e below T t m c hx hby hT k' => XS.ixor hT hx rfl (hb hby hd) rfl k') G
theorem Go.ior (D : Amb κ l Z y code maxL ret rm h0 n0 Q) {x z : Int32} (hd : decode code pc = .ok (.ior, 1)) (hp : pc + 1 = pc')  (G : Go κ σ h ce sl pc' ls (.int (x ||| z) :: rest)) : Go κ σ h ce sl pc ls (.int z :: .int x :: rest) := by
  subst hp
  exact Go.pure D (fun p e below T t m c hx hby hT k' => XS.ior hT hx rfl (hb hby hd) rfl k') G
theorem Go.ishl (D : Amb κ l Z y code maxL ret rm h0 n0 Q) {x z : Int32} (hd : decode code pc = .ok (.ishl, 1)) (hp : pc + 1 = pc')  (G : Go κ σ h ce sl pc' ls (.int (x <<< (z &&& 31)) :: rest)) : Go κ σ h ce sl pc ls (.int z :: .int x :: rest) := by
  subst hp
  exact Go.pure D (fun p e below T t m c hx hby hT k' => XS.ishl hT hx rfl (hb hby hd) rfl k') G
theorem Go.ishr (D : Amb κ l Z y code maxL ret rm h0 n0 Q) {x z : Int32} (hd : decode code pc = .ok (.ishr, 1)) (hp : pc + 1 = pc')  (G : Go κ σ h ce sl pc' ls (.int (x >>> (z &&& 31)) :: rest)) : Go κ σ h ce sl pc ls (.int z :: .int x :: rest) := by
  subst hp
  exact Go.pure D (fun p e below T t m c hx hby hT k' => XS.ishr hT hx rfl (hb hby hd) rfl k') G
theorem Go.iushr (D : Amb κ l Z y code maxL ret rm h0 n0 Q) {x z : Int32} (hd : decode code pc = .ok (.iushr, 1)) (hp : pc + 1 = pc')  (G : Go κ σ h ce sl pc' ls (.int (ushr x z) :: rest)) : Go κ σ h ce sl pc ls (.int z :: .int x :: rest) := by
  subst hp
  exact Go.pure D (fun p e below T t m c hx hby hT k' => XS.iushr hT hx rfl (hb hby hd) rfl k') G
theorem Go.ladd (D : Amb κ l Z y code maxL ret rm h0 n0 Q) {x z : Int64} (hd : decode code pc = .ok (.ladd, 1)) (hp : pc + 1 = pc')  (G : Go κ σ h ce sl pc' ls (.long (x + z) :: rest)) : Go κ σ h ce sl pc ls (.long z :: .long x :: rest) := by
  subst hp
  exact Go.pure D (fun p e below T t m c hx hby hT k' => XS.ladd hT hx rfl (hb hby hd) rfl k') G
theorem Go.lsub (D : Amb κ l Z y code maxL ret rm h0 n0 Q) {x z : Int64} (hd : decode code pc = .ok (.lsub, 1)) (hp : pc + 1 = pc')  (G : Go κ σ h ce sl pc' ls (.long (x - z) :: rest)) : Go κ σ h ce sl pc ls (.long z :: .long x :: rest) := by
  subst hp
  exact Go.pure D (fun p e below T t m c hx hby hT k' => XS.lsub hT hx rfl (hb hby hd) rfl k') G
theorem Go.lmul (D : Amb κ l Z y code maxL ret rm h0 n0 Q) {x z : Int64} (hd : decode code pc = .ok (.lmul, 1)) (hp : pc + 1 = pc')  (G : Go κ σ h ce sl pc' ls (.long (x * z) :: rest)) : Go κ σ h ce sl pc ls (.long z :: .long x :: rest) := by
  subst hp
  exact Go.pure D (fun p e below T t m c hx hby hT k' => XS.lmul hT hx rfl (hb hby hd) rfl k') G
theorem Go.land (D : Amb κ l Z y code maxL ret rm h0 n0 Q) {x z : Int64} (hd : decode code pc = .ok (.land, 1)) (hp : pc + 1 = pc')  (G : Go κ σ h ce sl pc' ls (.long (x &&& z) :: rest)) : Go κ σ h ce sl pc ls (.long z :: .long x :: rest) := by
  subst hp
  exact Go.pure D (fun p e below T t m c hx hby hT k' => XS.land hT hx rfl (hb hby hd) rfl k') G
theorem Go.lor (D : Amb κ l Z y code maxL ret rm h0 n0 Q) {x z : Int64} (hd : decode code pc = .ok (.lor, 1)) (hp : pc + 1 = pc')  (G : Go κ σ h ce sl pc' ls (.long (x ||| z) :: rest)) : Go κ σ h ce sl pc ls (.long z :: .long x :: rest) := by
  subst hp
  exact Go.pure D (fun p e below T t m c hx hby hT k' => XS.lor hT hx rfl (hb hby hd) rfl k') G
theorem Go.lxor (D : Amb κ l Z y code maxL ret rm h0 n0 Q) {x z : Int64} (hd : decode code pc = .ok (.lxor, 1)) (hp : pc + 1 = pc')  (G : Go κ σ h ce sl pc' ls (.long (x ^^^ z) :: rest)) : Go κ σ h ce sl pc ls (.long z :: .long x :: rest) := by
  subst hp
  exact Go.pure D (fun p e below T t m c hx hby hT k' => XS.lxor hT hx rfl (hb hby hd) rfl k') G
theorem Go.lshl (D : Amb κ l Z y code maxL ret rm h0 n0 Q) {x : Int64} {z : Int32} (hd : decode code pc = .ok (.lshl, 1)) (hp : pc + 1 = pc')  (G : Go κ σ h ce sl pc' ls (.long (x <<< (z &&& 63).toInt64) :: rest)) : Go κ σ h ce sl pc ls (.int z :: .long x :: rest) := by
  subst hp
  exact Go.pure D (fun p e below T t m c hx hby hT k' => XS.lshl hT hx rfl (hb hby hd) rfl k') G
theorem Go.lshr (D : Amb κ l Z y code maxL ret rm h0 n0 Q) {x : Int64} {z : Int32} (hd : decode code pc = .ok (.lshr, 1)) (hp : pc + 1 = pc')  (G : Go κ σ h ce sl pc' ls (.long (x >>> (z &&& 63).toInt64) :: rest)) : Go κ σ h ce sl pc ls (.int z :: .long x :: rest) := by
  subst hp
  exact Go.pure D (fun p e below T t m c hx hby hT k' => XS.lshr hT hx rfl (hb hby hd) rfl k') G
theorem Go.lushr (D : Amb κ l Z y code maxL ret rm h0 n0 Q) {x : Int64} {z : Int32} (hd : decode code pc = .ok (.lushr, 1)) (hp : pc + 1 = pc')  (G : Go κ σ h ce sl pc' ls (.long (ushrL x z) :: rest)) : Go κ σ h ce sl pc ls (.int z :: .long x :: rest) := by
  subst hp
  exact Go.pure D (fun p e below T t m c hx hby hT k' => XS.lushr hT hx rfl (hb hby hd) rfl k') G
theorem Go.ineg (D : Amb κ l Z y code maxL ret rm h0 n0 Q) {x : Int32} (hd : decode code pc = .ok (.ineg, 1)) (hp : pc + 1 = pc')  (G : Go κ σ h ce sl pc' ls (.int (-x) :: rest)) : Go κ σ h ce sl pc ls (.int x :: rest) := by
  subst hp
  exact Go.pure D (fun p e below T t m c hx hby hT k' => XS.ineg hT hx rfl (hb hby hd) rfl k') G
theorem Go.lneg (D : Amb κ l Z y code maxL ret rm h0 n0 Q) {x : Int64} (hd : decode code pc = .ok (.lneg, 1)) (hp : pc + 1 = pc')  (G : Go κ σ h ce sl pc' ls (.long (-x) :: rest)) : Go κ σ h ce sl pc ls (.long x :: rest) := by
  subst hp
  exact Go.pure D (fun p e below T t m c hx hby hT k' => XS.lneg hT hx rfl (hb hby hd) rfl k') G
theorem Go.i2l (D : Amb κ l Z y code maxL ret rm h0 n0 Q) {x : Int32} (hd : decode code pc = .ok (.i2l, 1)) (hp : pc + 1 = pc')  (G : Go κ σ h ce sl pc' ls (.long (x.toInt64) :: rest)) : Go κ σ h ce sl pc ls (.int x :: rest) := by
  subst hp
  exact Go.pure D (fun p e below T t m c hx hby hT k' => XS.i2l hT hx rfl (hb hby hd) rfl k') G
theorem Go.l2i (D : Amb κ l Z y code maxL ret rm h0 n0 Q) {x : Int64} (hd : decode code pc = .ok (.l2i, 1)) (hp : pc + 1 = pc')  (G : Go κ σ h ce sl pc' ls (.int (x.toInt32) :: rest)) : Go κ σ h ce sl pc ls (.long x :: rest) := by
  subst hp
  exact Go.pure D (fun p e below T t m c hx hby hT k' => XS.l2i hT hx rfl (hb hby hd) rfl k') G
theorem Go.i2b (D : Amb κ l Z y code maxL ret rm h0 n0 Q) {x : Int32} (hd : decode code pc = .ok (.i2b, 1)) (hp : pc + 1 = pc')  (G : Go κ σ h ce sl pc' ls (.int (x.toInt8.toInt32) :: rest)) : Go κ σ h ce sl pc ls (.int x :: rest) := by
  subst hp
  exact Go.pure D (fun p e below T t m c hx hby hT k' => XS.i2b hT hx rfl (hb hby hd) rfl k') G
theorem Go.i2c (D : Amb κ l Z y code maxL ret rm h0 n0 Q) {x : Int32} (hd : decode code pc = .ok (.i2c, 1)) (hp : pc + 1 = pc')  (G : Go κ σ h ce sl pc' ls (.int (x.toUInt32.toUInt16.toUInt32.toInt32) :: rest)) : Go κ σ h ce sl pc ls (.int x :: rest) := by
  subst hp
  exact Go.pure D (fun p e below T t m c hx hby hT k' => XS.i2c hT hx rfl (hb hby hd) rfl k') G
theorem Go.lcmp (D : Amb κ l Z y code maxL ret rm h0 n0 Q) {x z : Int64} (hd : decode code pc = .ok (.lcmp, 1)) (hp : pc + 1 = pc')  (G : Go κ σ h ce sl pc' ls (.int (cmpL x z) :: rest)) : Go κ σ h ce sl pc ls (.long z :: .long x :: rest) := by
  subst hp
  exact Go.pure D (fun p e below T t m c hx hby hT k' => XS.lcmp hT hx rfl (hb hby hd) rfl k') G
theorem Go.dup (D : Amb κ l Z y code maxL ret rm h0 n0 Q) {x : Value} (hd : decode code pc = .ok (.dup, 1)) (hp : pc + 1 = pc') (hc : x.category = 1) (G : Go κ σ h ce sl pc' ls (x :: x :: rest)) : Go κ σ h ce sl pc ls (x :: rest) := by
  subst hp
  exact Go.pure D (fun p e below T t m c hx hby hT k' => XS.dup hT hx rfl (hb hby hd) rfl hc k') G
theorem Go.pop (D : Amb κ l Z y code maxL ret rm h0 n0 Q) {x : Value} (hd : decode code pc = .ok (.pop, 1)) (hp : pc + 1 = pc') (hc : x.category = 1) (G : Go κ σ h ce sl pc' ls (rest)) : Go κ σ h ce sl pc ls (x :: rest) := by
  subst hp
  exact Go.pure D (fun p e below T t m c hx hby hT k' => XS.pop hT hx rfl (hb hby hd) rfl hc k') G
theorem Go.dupX1 (D : Amb κ l Z y code maxL ret rm h0 n0 Q) {x z : Value} (hd : decode code pc = .ok (.dup_x1, 1)) (hp : pc + 1 = pc') (hc : x.category = 1) (hc' : z.category = 1) (G : Go κ σ h ce sl pc' ls (x :: z :: x :: rest)) : Go κ σ h ce sl pc ls (x :: z :: rest) := by
  subst hp
  exact Go.pure D (fun p e below T t m c hx hby hT k' => XS.dupX1 hT hx rfl (hb hby hd) rfl hc hc' k') G
theorem Go.dup2 (D : Amb κ l Z y code maxL ret rm h0 n0 Q) {x z : Value} (hd : decode code pc = .ok (.dup2, 1)) (hp : pc + 1 = pc') (hc : x.category = 1) (hc' : z.category = 1) (G : Go κ σ h ce sl pc' ls (x :: z :: x :: z :: rest)) : Go κ σ h ce sl pc ls (x :: z :: rest) := by
  subst hp
  exact Go.pure D (fun p e below T t m c hx hby hT k' => XT.dup2 hT hx rfl (hb hby hd) rfl hc hc' k') G
theorem Go.dup2L (D : Amb κ l Z y code maxL ret rm h0 n0 Q) {x : Int64} (hd : decode code pc = .ok (.dup2, 1)) (hp : pc + 1 = pc')  (G : Go κ σ h ce sl pc' ls (.long x :: .long x :: rest)) : Go κ σ h ce sl pc ls (.long x :: rest) := by
  subst hp
  exact Go.pure D (fun p e below T t m c hx hby hT k' => XT.dup2L hT hx rfl (hb hby hd) rfl k') G
theorem Go.istoreN (D : Amb κ l Z y code maxL ret rm h0 n0 Q) {k : Fin 4} {x : Int32} (hd : decode code pc = .ok (.istore_n k, 1)) (hp : pc + 1 = pc') (hl : storeLocals ls k.val (.int x) = some ls') (G : Go κ σ h ce sl pc' ls' rest) : Go κ σ h ce sl pc ls (.int x :: rest) := by
  subst hp
  exact Go.pure D (fun p e below T t m c hx hby hT k' => XS.istoreN hT hx rfl (hb hby hd) rfl hl k') G
theorem Go.istore (D : Amb κ l Z y code maxL ret rm h0 n0 Q) {k : Nat} {x : Int32} (hd : decode code pc = .ok (.istore k, 2)) (hp : pc + 2 = pc') (hl : storeLocals ls k (.int x) = some ls') (G : Go κ σ h ce sl pc' ls' rest) : Go κ σ h ce sl pc ls (.int x :: rest) := by
  subst hp
  exact Go.pure D (fun p e below T t m c hx hby hT k' => XS.istore hT hx rfl (hb hby hd) rfl hl k') G
theorem Go.astoreN (D : Amb κ l Z y code maxL ret rm h0 n0 Q) {k : Fin 4} {x : Value} (hd : decode code pc = .ok (.astore_n k, 1)) (hp : pc + 1 = pc') (hv : x.isRef = true) (hl : storeLocals ls k.val x = some ls') (G : Go κ σ h ce sl pc' ls' rest) : Go κ σ h ce sl pc ls (x :: rest) := by
  subst hp
  exact Go.pure D (fun p e below T t m c hx hby hT k' => XS.astoreN hT hx rfl (hb hby hd) rfl hv hl k') G
theorem Go.astore (D : Amb κ l Z y code maxL ret rm h0 n0 Q) {k : Nat} {x : Value} (hd : decode code pc = .ok (.astore k, 2)) (hp : pc + 2 = pc') (hv : x.isRef = true) (hl : storeLocals ls k x = some ls') (G : Go κ σ h ce sl pc' ls' rest) : Go κ σ h ce sl pc ls (x :: rest) := by
  subst hp
  exact Go.pure D (fun p e below T t m c hx hby hT k' => XS.astore hT hx rfl (hb hby hd) rfl hv hl k') G
theorem Go.lstoreN (D : Amb κ l Z y code maxL ret rm h0 n0 Q) {k : Fin 4} {x : Int64} (hd : decode code pc = .ok (.lstore_n k, 1)) (hp : pc + 1 = pc') (hl : storeLocals ls k.val (.long x) = some ls') (G : Go κ σ h ce sl pc' ls' rest) : Go κ σ h ce sl pc ls (.long x :: rest) := by
  subst hp
  exact Go.pure D (fun p e below T t m c hx hby hT k' => XS.lstoreN hT hx rfl (hb hby hd) rfl hl k') G
theorem Go.lstore (D : Amb κ l Z y code maxL ret rm h0 n0 Q) {k : Nat} {x : Int64} (hd : decode code pc = .ok (.lstore k, 2)) (hp : pc + 2 = pc') (hl : storeLocals ls k (.long x) = some ls') (G : Go κ σ h ce sl pc' ls' rest) : Go κ σ h ce sl pc ls (.long x :: rest) := by
  subst hp
  exact Go.pure D (fun p e below T t m c hx hby hT k' => XS.lstore hT hx rfl (hb hby hd) rfl hl k') G
theorem Go.iinc (D : Amb κ l Z y code maxL ret rm h0 n0 Q) {k : Nat} {cst : Int} {x d : Int32} (hd : decode code pc = .ok (.iinc k cst, 3)) (hp : pc + 3 = pc') (hl : ls[k]? = some (.val (.int x))) (hv : Int32.ofInt cst = d) (hl' : storeLocals ls k (.int (x + d)) = some ls') (G : Go κ σ h ce sl pc' ls' st) : Go κ σ h ce sl pc ls st := by
  subst hp hv
  exact Go.pure D (fun p e below T t m c hx hby hT k' => XS.iinc hT hx rfl (hb hby hd) hl hl' k') G
theorem Go.istoreU (D : Amb κ l Z y code maxL ret rm h0 n0 Q) {k : Nat} {x : Int32} {o : Slot} (hd : decode code pc = .ok (.istore k, 2)) (hp : pc + 2 = pc') (hold : ls[k]? = some o) (ho : o = .unset ∨ ∃ w, o = .val w ∧ w.category = 1) (hl : ls.setIfInBounds k (.val (.int x)) = ls') (G : Go κ σ h ce sl pc' ls' rest) : Go κ σ h ce sl pc ls (.int x :: rest) := by
  subst hp hl
  exact Go.pure D (fun p e below T t m c hx hby hT k' => XS.istoreS hT hx rfl (hb hby hd) rfl hold ho k') G
theorem Go.istoreNU (D : Amb κ l Z y code maxL ret rm h0 n0 Q) {k : Fin 4} {x : Int32} {o : Slot} (hd : decode code pc = .ok (.istore_n k, 1)) (hp : pc + 1 = pc') (hold : ls[k.val]? = some o) (ho : o = .unset ∨ ∃ w, o = .val w ∧ w.category = 1) (hl : ls.setIfInBounds k.val (.val (.int x)) = ls') (G : Go κ σ h ce sl pc' ls' rest) : Go κ σ h ce sl pc ls (.int x :: rest) := by
  subst hp hl
  exact Go.pure D (fun p e below T t m c hx hby hT k' => XS.istoreNS hT hx rfl (hb hby hd) rfl hold ho k') G
theorem Go.astoreU (D : Amb κ l Z y code maxL ret rm h0 n0 Q) {k : Nat} {x : Value} {o : Slot} (hd : decode code pc = .ok (.astore k, 2)) (hp : pc + 2 = pc') (hv : x.isRef = true) (hc : x.category = 1) (hold : ls[k]? = some o) (ho : o = .unset ∨ ∃ w, o = .val w ∧ w.category = 1) (hl : ls.setIfInBounds k (.val x) = ls') (G : Go κ σ h ce sl pc' ls' rest) : Go κ σ h ce sl pc ls (x :: rest) := by
  subst hp hl
  exact Go.pure D (fun p e below T t m c hx hby hT k' => XS.astoreS hT hx rfl (hb hby hd) rfl hv hc hold ho k') G
theorem Go.goto (D : Amb κ l Z y code maxL ret rm h0 n0 Q) {o : Int} (hd : decode code pc = .ok (.goto o, 3)) (ho : 0 ≤ (pc : Int) + o) (hp : ((pc : Int) + o).toNat = pc') (G : Go κ σ h ce sl pc' ls st) : Go κ σ h ce sl pc ls st :=
  Go.pure D (fun p e below T t m c hx hby hT k' => XS.goto hT hx rfl rfl (hb hby hd) ho hp k') G
theorem Go.ifnullY (D : Amb κ l Z y code maxL ret rm h0 n0 Q) {o : Int} (hd : decode code pc = .ok (.ifnull o, 3)) (ho : 0 ≤ (pc : Int) + o) (hp : ((pc : Int) + o).toNat = pc') (G : Go κ σ h ce sl pc' ls rest) : Go κ σ h ce sl pc ls (.null :: rest) :=
  Go.pure D (fun p e below T t m c hx hby hT k' => XS.ifnullYes hT hx rfl rfl (hb hby hd) rfl ho hp k') G
theorem Go.ifnullN (D : Amb κ l Z y code maxL ret rm h0 n0 Q) {o : Int} {b : Addr} (hd : decode code pc = .ok (.ifnull o, 3)) (hp : pc + 3 = pc') (G : Go κ σ h ce sl pc' ls rest) : Go κ σ h ce sl pc ls (.ref b :: rest) := by
  subst hp
  exact Go.pure D (fun p e below T t m c hx hby hT k' => XS.ifnullNo hT hx rfl (hb hby hd) rfl k') G
theorem Go.ifnonnullY (D : Amb κ l Z y code maxL ret rm h0 n0 Q) {o : Int} {b : Addr} (hd : decode code pc = .ok (.ifnonnull o, 3)) (ho : 0 ≤ (pc : Int) + o) (hp : ((pc : Int) + o).toNat = pc') (G : Go κ σ h ce sl pc' ls rest) : Go κ σ h ce sl pc ls (.ref b :: rest) :=
  Go.pure D (fun p e below T t m c hx hby hT k' => XS.ifnonnullYes hT hx rfl rfl (hb hby hd) rfl ho hp k') G
theorem Go.ifnonnullN (D : Amb κ l Z y code maxL ret rm h0 n0 Q) {o : Int} (hd : decode code pc = .ok (.ifnonnull o, 3)) (hp : pc + 3 = pc') (G : Go κ σ h ce sl pc' ls rest) : Go κ σ h ce sl pc ls (.null :: rest) := by
  subst hp
  exact Go.pure D (fun p e below T t m c hx hby hT k' => XS.ifnonnullNo hT hx rfl (hb hby hd) rfl k') G
theorem Go.irem (D : Amb κ l Z y code maxL ret rm h0 n0 Q) {x z : Int32} (hd : decode code pc = .ok (.irem, 1)) (hp : pc + 1 = pc') (hz : z ≠ 0) (G : Go κ σ h ce sl pc' ls (.int (x % z) :: rest)) : Go κ σ h ce sl pc ls (.int z :: .int x :: rest) := by
  subst hp
  exact Go.calm D (fun p e s m args below meth c T locs hx hZ hown hby hml hh X eT => ⟨T, X, eT, fun t k => iremM X hx rfl (hb hby hd) rfl hz k⟩) G
theorem Go.ldcInt (D : Amb κ l Z y code maxL ret rm h0 n0 Q) {idx : Nat} {v : Int32} (w : (Jvm.Cond.constant y.cls idx v).before a0 Z = true) (hd : decode code pc = .ok (.ldc idx, 2)) (hp : pc + 2 = pc') (G : Go κ σ h ce sl pc' ls (.int v :: st)) : Go κ σ h ce sl pc ls st := by
  subst hp
  exact Go.calm D (fun p e s m args below meth c T locs hx hZ hown hby hml hh X eT => ⟨T, X, eT, X.ldcInt hx hown (mvT hZ w) (g := mkF m pc ls st) rfl (hb hby hd)⟩) G
theorem Go.ldc2Long (D : Amb κ l Z y code maxL ret rm h0 n0 Q) {idx : Nat} {v : Int64} (w : (Jvm.Cond.constantLong y.cls idx v).before a0 Z = true) (hd : decode code pc = .ok (.ldc2_w idx, 3)) (hp : pc + 3 = pc') (G : Go κ σ h ce sl pc' ls (.long v :: st)) : Go κ σ h ce sl pc ls st := by
  subst hp
  exact Go.calm D (fun p e s m args below meth c T locs hx hZ hown hby hml hh X eT => ⟨T, X, eT, X.ldc2Long hx hown (mvT hZ w) (g := mkF m pc ls st) rfl (hb hby hd)⟩) G
/-! fields -/
theorem Go.getF (D : Amb κ l Z y code maxL ret rm h0 n0 Q) {idx : Nat} {n d : String} {a : Addr} {v : Value} {O : String} (w : (Jvm.Cond.fieldLink y.cls idx O n d).before a0 Z = true) (hd : decode code pc = .ok (.getfield idx, 3)) (hp : pc + 3 = pc') (F : Fld Z h a O n d v) (G : Go κ σ h ce sl pc' ls (v :: rest)) : Go κ σ h ce sl pc ls (.ref a :: rest) := by
  subst hp
  exact Go.calm D (fun p e s m args below meth c T locs hx hZ hown hby hml hh X eT => Jvm.RoadKit.getF X hx hZ hown (host := "") (Or.inl w) Via.refl eT F (g := mkF m pc ls (.ref a :: rest)) rfl rfl (hb hby hd)) G
theorem Go.getFN (D : Amb κ l Z y code maxL ret rm h0 n0 Q) {idx : Nat} {n d host : String} {a : Addr} {v : Value} {O : String} (w : (Jvm.Cond.fieldLinkNest y.cls idx O n d host).before a0 Z = true) (hd : decode code pc = .ok (.getfield idx, 3)) (hp : pc + 3 = pc') (F : Fld Z h a O n d v) (G : Go κ σ h ce sl pc' ls (v :: rest)) : Go κ σ h ce sl pc ls (.ref a :: rest) := by
  subst hp
  exact Go.calm D (fun p e s m args below meth c T locs hx hZ hown hby hml hh X eT => Jvm.RoadKit.getF X hx hZ hown (host := host) (Or.inr w) Via.refl eT F (g := mkF m pc ls (.ref a :: rest)) rfl rfl (hb hby hd)) G
theorem Go.putF (D : Amb κ l Z y code maxL ret rm h0 n0 Q) {idx kk : Nat} {n d C O : String} {ty : FieldType} {a : Addr} {v old : Value} (w : (Jvm.Cond.fieldLink y.cls idx O n d).before a0 Z = true) (hd : decode code pc = .ok (.putfield idx, 3)) (hp : pc + 3 = pc') (F : Fld Z h a O n d old) (E : Exa Z h a C)
    (L : (Jvm.Cond.lays C O n d).before a0 Z = true ∨ ((Jvm.Cond.laysFinal C O n d).before a0 Z = true ∧ y.cls = O ∧ y.name = "<init>")) (wi : (Jvm.Cond.instantiable C kk).before a0 Z = true) (hty : parseFieldDescriptor d = some ty) (hn : narrow ty v = v) (hf : fits ty v = true) (ge : n0 ≤ a)
    (G : ∀ h', Wr h h' a (Jvm.RoadKit.slotOf Z O n d) v → Go κ σ h' ce sl pc' ls rest) : Go κ σ h ce sl pc ls (v :: .ref a :: rest) := by
  subst hp
  refine Go.turn D (fun p e s m args below meth c T locs hx hZ hown hby hml hnm X eT N => ?_) G
  obtain ⟨T', h1, X', e', W, k⟩ := Jvm.RoadKit.putF X hx hZ hown (host := "") (Or.inl w) Via.refl eT F E (L.imp id fun q => ⟨q.1, q.2.1, hnm.trans q.2.2⟩) wi hty hn hf (g := mkF m pc ls (v :: .ref a :: rest)) rfl rfl (hb hby hd)
  exact ⟨T', _, h1, X', e', Fr.snoc X' N ge, Gw.one (Keep.of_wr W) ge, W, k⟩
/-! new -/
theorem Go.newO (D : Amb κ l Z y code maxL ret rm h0 n0 Q) {idx n : Nat} {C : String} (w : (Jvm.Cond.classLink y.cls idx C).before a0 Z = true) (wi : (Jvm.Cond.instantiable C n).before a0 Z = true) (wz : (Jvm.Cond.initialized C).before a0 Z = true) (hd : decode code pc = .ok (.new idx, 3)) (hp : pc + 3 = pc') (hce : ce + 1 = ce') (hsl : sl + n = sl') (hc : ce' ≤ rm.cells) (hs : sl' ≤ rm.slots)
    (G : ∀ h' a, a = h.size → Ext h h' → Exa Z h' a C → (∀ {O nm d : String} {ty : FieldType}, Laid Z a0 C O nm d → parseFieldDescriptor d = some ty → Fld Z h' a O nm d (defaultValue ty)) → Go κ σ h' ce' sl' pc' ls (.ref a :: st)) : Go κ σ h ce sl pc ls st := by
  subst hp hce hsl
  refine Go.turn D (P := fun h' => Ext h h' ∧ Exa Z h' h.size C ∧ (∀ {O nm d : String} {ty : FieldType}, Laid Z a0 C O nm d → parseFieldDescriptor d = some ty → Fld Z h' h.size O nm d (defaultValue ty))) (fun p e s m args below meth c T locs hx hZ hown hby hml hnm X eT N => ?_) (fun h' q => G h' _ rfl q.1 q.2.1 q.2.2)
  obtain ⟨T', h1, X', e', E, A, F, -, k⟩ := Jvm.RoadKit.newO X hx hZ hown w wi wz eT (g := mkF m pc ls st) rfl (hb hby hd) hc hs
  exact ⟨T', _, h1, X', e', N, Gw.ext E, ⟨E, A, F⟩, k⟩
theorem Go.newP (D : Amb κ l Z y code maxL ret rm h0 n0 Q) {aty : ArrayType} {n : Int32} {cap : Nat} (w : (Jvm.Cond.arrayClass (newarray.typeOf aty)).before a0 Z = true) (hd : decode code pc = .ok (.newarray aty, 2)) (hp : pc + 2 = pc') (hn : ¬ n < 0) (hcap : n.toNatClampNeg ≤ cap) (hb' : cap * 8 ≤ 536870912) (hce : ce + 1 = ce') (hsl : sl + cap = sl') (hc : ce' ≤ rm.cells) (hs : sl' ≤ rm.slots)
    (G : ∀ h' a k, a = h.size → Ext h h' → Arv Z h' a k (newarray.typeOf aty) n [] (defaultValue (newarray.typeOf aty)) → Go κ σ h' ce' sl' pc' ls (.ref a :: rest)) : Go κ σ h ce sl pc ls (.int n :: rest) := by
  subst hp hce hsl
  refine Go.turn D (P := fun h' => ∃ k, Ext h h' ∧ Arv Z h' h.size k (newarray.typeOf aty) n [] (defaultValue (newarray.typeOf aty))) (fun p e s m args below meth c T locs hx hZ hown hby hml hnm X eT N => ?_) (fun h' q => by obtain ⟨k, q1, q2⟩ := q; exact G h' _ k rfl q1 q2)
  obtain ⟨T', h1, k, X', e', E, A, st'⟩ := Jvm.RoadKit.newP X hx hZ w eT (g := mkF m pc ls (.int n :: rest)) rfl (hb hby hd) rfl hn hcap hb' hc hs
  exact ⟨T', _, h1, X', e', N, Gw.ext E, ⟨k, E, Arv.new A hn⟩, st'⟩
theorem Go.initO (D : Amb κ l Z y code maxL ret rm h0 n0 Q) {idx : Nat} {a : Addr} (w1 : (Jvm.Cond.methodLink y.cls idx Lib.objectInit).before a0 Z = true) (w2 : (Jvm.Cond.instanceMethod Lib.objectInit).before a0 Z = true) (w3 : (Jvm.Cond.code Lib.objectInit ⟨#[0xb1]⟩ 1 none).before a0 Z = true) (hd : decode code pc = .ok (.invokespecial idx, 3)) (hp : pc + 3 = pc') (hls : ls.size = maxL) (hf : 1 ≤ rm.frames) {W : Nat} (hW : (rest.map fun v => v.category).sum = W) (hl : W + 12 ≤ rm.locals)
    (G : Go κ σ h ce sl pc' ls rest) : Go κ σ h ce sl pc ls (.ref a :: rest) := by
  subst hp
  exact Go.calm D (fun p e s m args below meth c T locs hx hZ hown hby hml hh X eT => Jvm.RoadKit.initO X hx hZ hown w1 w2 w3 eT (g := mkF m pc ls (.ref a :: rest)) rfl (hls.trans hml.symm) rfl (hb hby hd) hf (W := W) (by show 2 * 0 + _ ≤ _; rw [hW]; omega) hl) G
/-! arrays -/
section Arrays
variable {a : Addr} {k : ClassId} {n j : Int32} {vs : List Value} {dv v : Value}
theorem Go.alen (D : Amb κ l Z y code maxL ret rm h0 n0 Q) {ty : FieldType} (hd : decode code pc = .ok (.arraylength, 1)) (hp : pc + 1 = pc') (A : Arv Z h a k ty n vs dv) (G : Go κ σ h ce sl pc' ls (.int n :: rest)) : Go κ σ h ce sl pc ls (.ref a :: rest) := by
  subst hp
  obtain ⟨c', A1, A2, A3, A4, A5, A6⟩ := A
  refine Go.calm D (fun p e s m args below meth c T locs hx hZ hown hby hml hh X eT => ⟨T, X, eT, fun t q => ?_⟩) G
  refine X.arraylength hx (by rw [eT]; exact A1.1) (State.isArrayOf_alike hZ.alike A1.2.1) (g := mkF m pc ls (.ref a :: rest)) rfl rfl (hb hby hd) t ?_
  rw [len_of A3 A4]; exact q
theorem Go.iaload (D : Amb κ l Z y code maxL ret rm h0 n0 Q) (hd : decode code pc = .ok (.iaload, 1)) (hp : pc + 1 = pc') (A : Arv Z h a k .int n vs dv) (h1 : ¬ j < 0) (h2 : j < n) (hv : vs.getD j.toNatClampNeg dv = v) (G : Go κ σ h ce sl pc' ls (v :: rest)) : Go κ σ h ce sl pc ls (.int j :: .ref a :: rest) := by
  subst hp
  obtain ⟨c', A1, A2, A3, A4, A5, A6, A7⟩ := A.inb h1 h2
  exact Go.calm D (fun p e s m args below meth c T locs hx hZ hown hby hml hh X eT => ⟨T, X, eT, fun t q => X.iaload hx (by rw [eT]; exact A1.1) (State.isArrayOf_alike hZ.alike A1.2.1) A1.2.2 A7 (A5.at A7 hv) (g := mkF m pc ls (.int j :: .ref a :: rest)) rfl rfl (hb hby hd) t q⟩) G
theorem Go.caload (D : Amb κ l Z y code maxL ret rm h0 n0 Q) (hd : decode code pc = .ok (.caload, 1)) (hp : pc + 1 = pc') (A : Arv Z h a k .char n vs dv) (h1 : ¬ j < 0) (h2 : j < n) (hv : vs.getD j.toNatClampNeg dv = v) (G : Go κ σ h ce sl pc' ls (v :: rest)) : Go κ σ h ce sl pc ls (.int j :: .ref a :: rest) := by
  subst hp
  obtain ⟨c', A1, A2, A3, A4, A5, A6, A7⟩ := A.inb h1 h2
  exact Go.calm D (fun p e s m args below meth c T locs hx hZ hown hby hml hh X eT => ⟨T, X, eT, fun t q => X.caload hx (by rw [eT]; exact A1.1) (State.isArrayOf_alike hZ.alike A1.2.1) A1.2.2 A7 (A5.at A7 hv) (g := mkF m pc ls (.int j :: .ref a :: rest)) rfl rfl (hb hby hd) t q⟩) G
theorem Go.baload (D : Amb κ l Z y code maxL ret rm h0 n0 Q) (hd : decode code pc = .ok (.baload, 1)) (hp : pc + 1 = pc') (A : Arv Z h a k .byte n vs dv) (h1 : ¬ j < 0) (h2 : j < n) (hv : vs.getD j.toNatClampNeg dv = v) (G : Go κ σ h ce sl pc' ls (v :: rest)) : Go κ σ h ce sl pc ls (.int j :: .ref a :: rest) := by
  subst hp
  obtain ⟨c', A1, A2, A3, A4, A5, A6, A7⟩ := A.inb h1 h2
  exact Go.calm D (fun p e s m args below meth c T locs hx hZ hown hby hml hh X eT => ⟨T, X, eT, fun t q => X.baloadBytes hx (by rw [eT]; exact A1.1) (State.isArrayOf_alike hZ.alike A1.2.1) A1.2.2 A7 (A5.at A7 hv) (g := mkF m pc ls (.int j :: .ref a :: rest)) rfl rfl (hb hby hd) t q⟩) G
theorem Go.iastore (D : Amb κ l Z y code maxL ret rm h0 n0 Q) {x : Int32} {i : Nat} (hd : decode code pc = .ok (.iastore, 1)) (hp : pc + 1 = pc') (A : Arv Z h a k .int n vs dv) (h1 : ¬ j < 0) (h2 : j < n) (hj : j.toNatClampNeg = i) (hi : i < vs.length) (ge : n0 ≤ a)
    (G : ∀ h', Keep h h' [a] → Arv Z h' a k .int n (vs.set i (.int x)) dv → Go κ σ h' ce sl pc' ls rest) : Go κ σ h ce sl pc ls (.int x :: .int j :: .ref a :: rest) := by
  subst hp
  obtain ⟨c', A1, A2, A3, A4, A5, A6, A7⟩ := A.inb h1 h2
  refine Go.turn D (P := fun h' => Keep h h' [a] ∧ Arv Z h' a k .int n (vs.set i (.int x)) dv) (fun p e s m args below meth c T locs hx hZ hown hby hml hnm X eT N => ?_) (fun h' q => G h' q.1 q.2)
  obtain ⟨T', h1, X', e', W, q⟩ := stI X hx hZ eT A1 A7 (g := mkF m pc ls (.int x :: .int j :: .ref a :: rest)) rfl rfl (hb hby hd)
  exact ⟨T', _, h1, X', e', Fr.snoc X' N ge, Gw.one (Keep.of_wr W) ge, ⟨Keep.of_wr W, Arv.set A1 A2 A3 A4 A5 A6 rfl W i hj hi⟩, q⟩
theorem Go.castore (D : Amb κ l Z y code maxL ret rm h0 n0 Q) {x x' : Int32} {i : Nat} (hd : decode code pc = .ok (.castore, 1)) (hp : pc + 1 = pc') (A : Arv Z h a k .char n vs dv) (h1 : ¬ j < 0) (h2 : j < n) (hj : j.toNatClampNeg = i) (hi : i < vs.length) (ge : n0 ≤ a) (hx' : nar .char x = x')
    (G : ∀ h', Keep h h' [a] → Arv Z h' a k .char n (vs.set i (.int x')) dv → Go κ σ h' ce sl pc' ls rest) : Go κ σ h ce sl pc ls (.int x :: .int j :: .ref a :: rest) := by
  subst hp hx'
  obtain ⟨c', A1, A2, A3, A4, A5, A6, A7⟩ := A.inb h1 h2
  refine Go.turn D (P := fun h' => Keep h h' [a] ∧ Arv Z h' a k .char n (vs.set i (.int (nar .char x))) dv) (fun p e s m args below meth c T locs hx hZ hown hby hml hnm X eT N => ?_) (fun h' q => G h' q.1 q.2)
  obtain ⟨T', h1, X', e', W, q⟩ := stC X hx hZ eT A1 A7 (g := mkF m pc ls (.int x :: .int j :: .ref a :: rest)) rfl rfl (hb hby hd)
  exact ⟨T', _, h1, X', e', Fr.snoc X' N ge, Gw.one (Keep.of_wr W) ge, ⟨Keep.of_wr W, Arv.set A1 A2 A3 A4 A5 A6 (fits_nar_char x) W i hj hi⟩, q⟩
theorem Go.bastore (D : Amb κ l Z y code maxL ret rm h0 n0 Q) {x x' : Int32} {i : Nat} (hd : decode code pc = .ok (.bastore, 1)) (hp : pc + 1 = pc') (A : Arv Z h a k .byte n vs dv) (h1 : ¬ j < 0) (h2 : j < n) (hj : j.toNatClampNeg = i) (hi : i < vs.length) (ge : n0 ≤ a) (hx' : nar .byte x = x')
    (G : ∀ h', Keep h h' [a] → Arv Z h' a k .byte n (vs.set i (.int x')) dv → Go κ σ h' ce sl pc' ls rest) : Go κ σ h ce sl pc ls (.int x :: .int j :: .ref a :: rest) := by
  subst hp hx'
  obtain ⟨c', A1, A2, A3, A4, A5, A6, A7⟩ := A.inb h1 h2
  refine Go.turn D (P := fun h' => Keep h h' [a] ∧ Arv Z h' a k .byte n (vs.set i (.int (nar .byte x))) dv) (fun p e s m args below meth c T locs hx hZ hown hby hml hnm X eT N => ?_) (fun h' q => G h' q.1 q.2)
  obtain ⟨T', h1, X', e', W, q⟩ := stB X hx hZ eT A1 A7 (g := mkF m pc ls (.int x :: .int j :: .ref a :: rest)) rfl rfl (hb hby hd)
  exact ⟨T', _, h1, X', e', Fr.snoc X' N ge, Gw.one (Keep.of_wr W) ge, ⟨Keep.of_wr W, Arv.set A1 A2 A3 A4 A5 A6 (fits_nar_byte x) W i hj hi⟩, q⟩
end Arrays
/-! classes of objects -/
theorem Go.castY (D : Amb κ l Z y code maxL ret rm h0 n0 Q) {idx : Nat} {K : String} {a : Addr} (w : (Jvm.Cond.classLink y.cls idx K).before a0 Z = true) (hd : decode code pc = .ok (.checkcast idx, 3)) (hp : pc + 3 = pc') (F : Ins Z h a K true) (G : Go κ σ h ce sl pc' ls (.ref a :: rest)) : Go κ σ h ce sl pc ls (.ref a :: rest) := by
  subst hp
  exact Go.calm D (fun p e s m args below meth c T locs hx hZ hown hby hml hh X eT => Jvm.RoadKit.castY X hx hZ hown w eT F (g := mkF m pc ls (.ref a :: rest)) rfl rfl (hb hby hd)) G
theorem Go.instY (D : Amb κ l Z y code maxL ret rm h0 n0 Q) {idx : Nat} {K : String} {a : Addr} (w : (Jvm.Cond.classLink y.cls idx K).before a0 Z = true) (hd : decode code pc = .ok (.instanceof idx, 3)) (hp : pc + 3 = pc') (F : Ins Z h a K true) (G : Go κ σ h ce sl pc' ls (.int 1 :: rest)) : Go κ σ h ce sl pc ls (.ref a :: rest) := by
  subst hp
  exact Go.calm D (fun p e s m args below meth c T locs hx hZ hown hby hml hh X eT => Jvm.RoadKit.instY X hx hZ hown w eT F (g := mkF m pc ls (.ref a :: rest)) rfl rfl (hb hby hd)) G
theorem Go.instN (D : Amb κ l Z y code maxL ret rm h0 n0 Q) {idx : Nat} {K C : String} {a : Addr} (w : (Jvm.Cond.classLink y.cls idx K).before a0 Z = true) (hd : decode code pc = .ok (.instanceof idx, 3)) (hp : pc + 3 = pc') (F : ∃ c t, Z.vm.findClass C = some c ∧ Z.vm.findClass K = some t ∧ Z.vm.assignable c t = false) (E : Exa Z h a C) (G : Go κ σ h ce sl pc' ls (.int 0 :: rest)) : Go κ σ h ce sl pc ls (.ref a :: rest) := by
  subst hp
  exact Go.calm D (fun p e s m args below meth c T locs hx hZ hown hby hml hh X eT => instNo X hx hZ hown w eT E F (g := mkF m pc ls (.ref a :: rest)) rfl rfl (hb hby hd)) G
theorem Go.instNull (D : Amb κ l Z y code maxL ret rm h0 n0 Q) {idx : Nat} (hd : decode code pc = .ok (.instanceof idx, 3)) (hp : pc + 3 = pc') (G : Go κ σ h ce sl pc' ls (.int 0 :: rest)) : Go κ σ h ce sl pc ls (.null :: rest) := by
  subst hp
  exact Go.calm D (fun p e s m args below meth c T locs hx hZ hown hby hml hh X eT => ⟨T, X, eT, X.instanceofNull hx (g := mkF m pc ls (.null :: rest)) rfl rfl (hb hby hd)⟩) G
theorem Go.acmpNe (D : Amb κ l Z y code maxL ret rm h0 n0 Q) {o : Int} {x z : Value} (h1 : x.isRef = true) (h2 : z.isRef = true) (hd : decode code pc = .ok (.if_acmp .ne o, 3)) (ho : 0 ≤ (pc : Int) + o) (hp : ((pc : Int) + o).toNat = pc') (hp2 : pc + 3 = pc2)
    (Gt : ¬ x = z → Go κ σ h ce sl pc' ls rest) (Gf : x = z → Go κ σ h ce sl pc2 ls rest) : Go κ σ h ce sl pc ls (z :: x :: rest) := by
  subst hp hp2
  by_cases q : x = z
  · exact Go.calm D (fun p e s m args below meth c T locs hx hZ hown hby hml hh X eT => ⟨T, X, eT, fun t k => acmp (g := mkF m pc ls (z :: x :: rest)) X hx rfl h1 h2 (same := true) rfl (hb hby hd) rfl (by simp [q]) ho (by simp [acV]) k⟩) (Gf q)
  · exact Go.calm D (fun p e s m args below meth c T locs hx hZ hown hby hml hh X eT => ⟨T, X, eT, fun t k => acmp (g := mkF m pc ls (z :: x :: rest)) X hx rfl h1 h2 (same := false) rfl (hb hby hd) rfl (by simp [q]) ho (by simp [acV]) k⟩) (Gt q)
theorem Go.acmpEq (D : Amb κ l Z y code maxL ret rm h0 n0 Q) {o : Int} {x z : Value} (h1 : x.isRef = true) (h2 : z.isRef = true) (hd : decode code pc = .ok (.if_acmp .eq o, 3)) (ho : 0 ≤ (pc : Int) + o) (hp : ((pc : Int) + o).toNat = pc') (hp2 : pc + 3 = pc2)
    (Gt : x = z → Go κ σ h ce sl pc' ls rest) (Gf : ¬ x = z → Go κ σ h ce sl pc2 ls rest) : Go κ σ h ce sl pc ls (z :: x :: rest) := by
  subst hp hp2
  by_cases q : x = z
  · exact Go.calm D (fun p e s m args below meth c T locs hx hZ hown hby hml hh X eT => ⟨T, X, eT, fun t k => acmp (g := mkF m pc ls (z :: x :: rest)) X hx rfl h1 h2 (same := true) rfl (hb hby hd) rfl (by simp [q]) ho (by simp [acV]) k⟩) (Gt q)
  · exact Go.calm D (fun p e s m args below meth c T locs hx hZ hown hby hml hh X eT => ⟨T, X, eT, fun t k => acmp (g := mkF m pc ls (z :: x :: rest)) X hx rfl h1 h2 (same := false) rfl (hb hby hd) rfl (by simp [q]) ho (by simp [acV]) k⟩) (Gf q)
/-! System.arraycopy -/
theorem Go.acopy (D : Amb κ l Z y code maxL ret rm h0 n0 Q) {idx sN dN nN : Nat} {a b : Addr} {k k' : ClassId} {ty : FieldType} {z z' sp dp nn : Int32} {vs vd : List Value} {dv dd : Value} (w1 : (Jvm.Cond.methodLink y.cls idx Jvm.Stand.acN).before a0 Z = true) (w2 : (Jvm.Cond.native Jvm.Stand.acN).before a0 Z = true) (w3 : (Jvm.Cond.static Jvm.Stand.acN).before a0 Z = true) (w4 : (Jvm.Cond.initialized "java/lang/System").before a0 Z = true)
    (hd : decode code pc = .ok (.invokestatic idx, 3)) (hp : pc + 3 = pc') (A : Arv Z h a k ty z vs dv) (B : Arv Z h b k' ty z' vd dd) (hty : refKind ty = false) (h1 : ¬ sp < 0) (h2 : ¬ dp < 0) (h3 : ¬ nn < 0) (e1 : sp.toNatClampNeg = sN) (e2 : dp.toNatClampNeg = dN) (e3 : nn.toNatClampNeg = nN) (h4 : sN + nN ≤ z.toNatClampNeg) (h5 : dN + nN ≤ z'.toNatClampNeg)
    (hl : dN + nN ≤ vd.length) (ge : n0 ≤ b) (hls : ls.size = maxL) (hf : 1 ≤ rm.frames) {W : Nat} (hW : (rest.map fun v => v.category).sum = W) (hlo : W + (nativeFrameWords "java/lang/System" "arraycopy" 5 + 11) ≤ rm.locals)
    (G : ∀ h', Keep h h' [b] → Arv Z h' b k' ty z' (vd.take dN ++ ((List.range nN).map fun i => vs.getD (sN + i) dv) ++ vd.drop (dN + nN)) dd → Go κ σ h' ce sl pc' ls rest) : Go κ σ h ce sl pc ls (.int nn :: .int dp :: .ref b :: .int sp :: .ref a :: rest) := by
  subst hp e1 e2 e3
  refine Go.turn D (P := fun h' => Keep h h' [b] ∧ Arv Z h' b k' ty z' (vd.take dp.toNatClampNeg ++ ((List.range nn.toNatClampNeg).map fun i => vs.getD (sp.toNatClampNeg + i) dv) ++ vd.drop (dp.toNatClampNeg + nn.toNatClampNeg)) dd) (fun p e s m args below meth c T locs hx hZ hown hby hml hnm X eT N => ?_) (fun h' q => G h' q.1 q.2)
  obtain ⟨T', h1, L, X', e', N', K, A', q⟩ := cpA X hx hZ hown w1 w2 w3 w4 eT A B (Or.inl ⟨rfl, hty⟩) h1 h2 h3 h4 h5 rfl hl N ge (g := mkF m pc ls (.int nn :: .int dp :: .ref b :: .int sp :: .ref a :: rest)) rfl (hls.trans hml.symm) rfl (hb hby hd) hf (W := W) (by show 2 * 0 + _ ≤ _; rw [hW]; omega) hlo
  exact ⟨T', L, h1, X', e', N', Gw.one K ge, ⟨K, A'⟩, q⟩
theorem nin1 {x y : Addr} (q : x ≠ y) : x ∉ [y] := fun z => q (List.mem_singleton.mp z)
/-! calls -/
section Calls
variable {z : MethodName} {bytes : ByteArray} {maxLz : Nat} {retz : Option FieldType} {rmz : Room} {argsL : List Value} {Qz : Option Value → Heap → Sg → Prop} {idx : Nat} {ps : List FieldType} {rt : Option FieldType}
theorem backOfW {p : Program} {e : Env} {R : Room} {s : State} {args : Array Value} {below : List Frame} {len W : Nat} (hM : Con l Z z bytes maxLz retz rmz [] as σ h n0 Qz)
    (hZ : Z.Warmed39 s.vm) (wc : (Jvm.Cond.code z bytes maxLz retz).before a0 Z = true) (wz : (Jvm.Cond.initialized z.cls).before a0 Z = true) (hf : rmz.frames + 1 ≤ R.frames) (hl : W + (maxLz + 11) + rmz.locals ≤ R.locals) :
    BackS l R p e below s args z len W (fun A a => a = as ∧ A.U.heap = h ∧ A.cells + rmz.cells ≤ R.cells ∧ A.slots + rmz.slots ≤ R.slots ∧ VOk Z A.U.vm σ ∧ Old Z n0 A.U.heap)
      (fun A _ v B => ∃ L σ', (Fr n0 L ∧ VOk Z B.U.vm σ' ∧ Old Z n0 B.U.heap ∧ Qz v B.U.heap σ') ∧ B.locs = A.locs ++ L ∧ B.cells = A.cells + rmz.cells ∧ B.slots = A.slots + rmz.slots) :=
  BackS.of_freeW (bytes := bytes) (maxL := maxLz) (ret := retz) (E := fun _ _ o t L k n => k = rmz.cells ∧ n = rmz.slots ∧ ∃ v σ', o = .returned v ∧ (Fr n0 L ∧ VOk Z t.vm σ' ∧ Old Z n0 t.heap ∧ Qz v t.heap σ')) hM hf hl
    (fun m meth c A a Y hp => have hU : Z.Warmed39 A.U.vm := wtrans hZ Y.warmed
      ⟨by show (Jvm.Cond.and _ .tt).before a A.U = true; rw [Cond.before_and, mv hU wc]; rfl, mv hU wc, mv hU wz, hp.2.2.1, hp.2.2.2.1⟩)
    (fun m meth c A a g mk Y hp => ⟨hp.1, wtrans hZ Y.warmed, hp.2.1, hp.2.2.2.2.1, hp.2.2.2.2.2⟩) (fun _ _ _ _ _ _ _ _ _ => trivial)
    (fun _ _ _ _ ⟨v, L, σ', h1, h2, h3⟩ => ⟨L, _, _, h3, rfl, rfl, v, σ', h1, h2⟩)
    (fun m meth c A a g mk v t L k n Y hp _ _ ⟨e1, e2, v', σ', e3, e4⟩ => by cases e3; subst e1 e2; exact ⟨L, σ', e4, rfl, rfl, rfl⟩)
theorem Go.callS (D : Amb κ l Z y code maxL ret rm h0 n0 Q) (M : Con l Z z bytes maxLz retz rmz [] argsL.toArray σ h n0 Qz) (w1 : (Jvm.Cond.methodLink y.cls idx z).before a0 Z = true) (w2 : (Jvm.Cond.static z).before a0 Z = true) (w3 : (Jvm.Cond.initialized z.cls).before a0 Z = true) (w4 : (Jvm.Cond.code z bytes maxLz retz).before a0 Z = true)
    (hz : z.cls ≠ "java/lang/invoke/MethodHandle" ∧ z.cls ≠ "java/lang/invoke/VarHandle") (hd : decode code pc = .ok (.invokestatic idx, 3)) (hp : pc + 3 = pc') (hpd : parseMethodDescriptor z.desc = some ⟨ps, rt⟩) (hlen : argsL.length = ps.length) (hst : st = argsL.reverse ++ rest) (hls : ls.size = maxL)
    (hf : rmz.frames + 1 ≤ rm.frames) {W : Nat} (hW : (rest.map fun v => v.category).sum = W) (hlo : W + (maxLz + 11) + rmz.locals ≤ rm.locals) (hce : ce + rmz.cells ≤ ce') (hsl : sl + rmz.slots ≤ sl') (hc : ce' ≤ rm.cells) (hs : sl' ≤ rm.slots)
    (G : ∀ v h' σ', Qz v h' σ' → Go κ σ' h' ce' sl' pc' ls (v.toList ++ rest)) : Go κ σ h ce sl pc ls st := by
  subst hp
  obtain ⟨p, l', e, R, s, m, args, below, meth, c, Z', n0', Q'⟩ := κ
  obtain ⟨rfl, rfl, rfl, rfl, hQ, hx, hZ, hown, hby, hml, hret, hlk, hnm, hh⟩ := D
  intro vm0 k0 T locs X hS hk V O eT N
  have hZ0 : Z'.Warmed39 (s.setVm vm0).vm := State.Warmed39.trans (t := s) hZ hS.1
  have hown0 : (s.setVm vm0).vm.findClass y.cls = some m.cls := by show vm0.findClass _ = _; rw [hS.1.alike.findClass]; exact hown
  obtain ⟨v, vm₁, ⟨T1, L1, k1, n1⟩, -, X1, hS1, hsz, ⟨Lc, σ', hQ1, l1, y1, z1⟩, st1⟩ := callSS X hx (y := z) hown0 (mvT hZ0 w1) (mvT hZ0 w2) (mvT hZ0 w3) (mvT hZ0 w4) hz (backOfW (W := W) M hZ0 w4 w3 hf hlo) (g := mkF m pc ls st) rfl (hls.trans hml.symm) (argsL := argsL) (rest := rest) (lenOf hpd hlen) hst (by show 2 * 0 + _ ≤ _; rw [hW]; omega) (hb hby hd) (fun vm₁ hw1 => ⟨rfl, eT, Nat.le_trans hce hc, Nat.le_trans hsl hs, V.warm hw1, by show Old _ _ T.heap; rw [eT]; exact O⟩)
  dsimp only [Pt.U, Pt.locs, Pt.cells, Pt.slots] at X1 l1 y1 z1 st1 hQ1 hS1 hsz
  subst l1 y1 z1
  obtain ⟨s₂, o, g1, g2⟩ := G v T1.heap σ' hQ1.2.2.2 T1.vm T1.heap.size T1 _ (sd_mono X1 hce hsl) (hS.trans hS1 (by rw [eT] at hsz; exact Nat.le_trans hk hsz)) (Nat.le_refl _) hQ1.2.1 hQ1.2.2.1 rfl (Fr.app N hQ1.1)
  exact ⟨s₂, o, st1.trans g1, g2⟩
theorem Go.callI (D : Amb κ l Z y code maxL ret rm h0 n0 Q) {a : Addr} (M : Con l Z z bytes maxLz none rmz [] (.ref a :: argsL).toArray σ h n0 Qz) (hz1 : z.name = "<init>") (w1 : (Jvm.Cond.methodLink y.cls idx z).before a0 Z = true) (w2 : (Jvm.Cond.instanceMethod z).before a0 Z = true) (w3 : (Jvm.Cond.initialized z.cls).before a0 Z = true) (w4 : (Jvm.Cond.code z bytes maxLz none).before a0 Z = true)
    (hz : z.cls ≠ "java/lang/invoke/MethodHandle" ∧ z.cls ≠ "java/lang/invoke/VarHandle") (hd : decode code pc = .ok (.invokespecial idx, 3)) (hp : pc + 3 = pc') (hpd : parseMethodDescriptor z.desc = some ⟨ps, rt⟩) (hlen : argsL.length = ps.length) (hst : st = argsL.reverse ++ .ref a :: rest) (hls : ls.size = maxL)
    (hf : rmz.frames + 1 ≤ rm.frames) {W : Nat} (hW : (rest.map fun v => v.category).sum = W) (hlo : W + (maxLz + 11) + rmz.locals ≤ rm.locals) (hce : ce + rmz.cells ≤ ce') (hsl : sl + rmz.slots ≤ sl') (hc : ce' ≤ rm.cells) (hs : sl' ≤ rm.slots)
    (G : ∀ v h' σ', Qz v h' σ' → Go κ σ' h' ce' sl' pc' ls (v.toList ++ rest)) : Go κ σ h ce sl pc ls st := by
  subst hp
  obtain ⟨p, l', e, R, s, m, args, below, meth, c, Z', n0', Q'⟩ := κ
  obtain ⟨rfl, rfl, rfl, rfl, hQ, hx, hZ, hown, hby, hml, hret, hlk, hnm, hh⟩ := D
  intro vm0 k0 T locs X hS hk V O eT N
  have hZ0 : Z'.Warmed39 (s.setVm vm0).vm := State.Warmed39.trans (t := s) hZ hS.1
  have hown0 : (s.setVm vm0).vm.findClass y.cls = some m.cls := by show vm0.findClass _ = _; rw [hS.1.alike.findClass]; exact hown
  obtain ⟨v, vm₁, ⟨T1, L1, k1, n1⟩, -, X1, hS1, hsz, ⟨Lc, σ', hQ1, l1, y1, z1⟩, st1⟩ := X.specialBackS hx (y := z) hz1 hown0 (mvT hZ0 w1) (mvT hZ0 w2) (mvT hZ0 w4) hz (backOfW (W := W) M hZ0 w4 w3 hf hlo) (g := mkF m pc ls st) rfl (hls.trans hml.symm) (Steps.refl _) (a := a) (argsL := argsL) (rest := rest) (lenOf hpd hlen) hst (by show 2 * 0 + _ ≤ _; rw [hW]; omega) (hb hby hd) (fun vm₁ hw1 => ⟨rfl, eT, Nat.le_trans hce hc, Nat.le_trans hsl hs, V.warm hw1, by show Old _ _ T.heap; rw [eT]; exact O⟩)
  dsimp only [Pt.U, Pt.locs, Pt.cells, Pt.slots] at X1 l1 y1 z1 st1 hQ1 hS1 hsz
  subst l1 y1 z1
  obtain ⟨s₂, o, g1, g2⟩ := G v T1.heap σ' hQ1.2.2.2 T1.vm T1.heap.size T1 _ (sd_mono X1 hce hsl) (hS.trans hS1 (by rw [eT] at hsz; exact Nat.le_trans hk hsz)) (Nat.le_refl _) hQ1.2.1 hQ1.2.2.1 rfl (Fr.app N hQ1.1)
  exact ⟨s₂, o, st1.trans g1, g2⟩
theorem Go.callV (D : Amb κ l Z y code maxL ret rm h0 n0 Q) {a : Addr} {C : String} {zr : MethodName} (M : Con l Z z bytes maxLz retz rmz [] (.ref a :: argsL).toArray σ h n0 Qz) (w1 : (Jvm.Cond.methodLink y.cls idx zr).before a0 Z = true) (w2 : (Jvm.Cond.declares zr).before a0 Z = true) (ws : (Jvm.Cond.selects C zr z).before a0 Z = true) (wi : (Jvm.Cond.instanceMethod z).before a0 Z = true) (w3 : (Jvm.Cond.initialized z.cls).before a0 Z = true) (w4 : (Jvm.Cond.code z bytes maxLz retz).before a0 Z = true)
    (nf : ∀ s : State, Z.Warmed39 s.vm → NotFace s zr) (hz : zr.cls ≠ "java/lang/invoke/MethodHandle" ∧ zr.cls ≠ "java/lang/invoke/VarHandle") (E : Exa Z h a C) (hd : decode code pc = .ok (.invokevirtual idx, 3)) (hp : pc + 3 = pc') (hpd : parseMethodDescriptor zr.desc = some ⟨ps, rt⟩) (hlen : argsL.length = ps.length) (hst : st = argsL.reverse ++ .ref a :: rest) (hls : ls.size = maxL)
    (hf : rmz.frames + 1 ≤ rm.frames) {W : Nat} (hW : (rest.map fun v => v.category).sum = W) (hlo : W + (maxLz + 11) + rmz.locals ≤ rm.locals) (hce : ce + rmz.cells ≤ ce') (hsl : sl + rmz.slots ≤ sl') (hc : ce' ≤ rm.cells) (hs : sl' ≤ rm.slots)
    (G : ∀ v h' σ', Qz v h' σ' → Go κ σ' h' ce' sl' pc' ls (v.toList ++ rest)) : Go κ σ h ce sl pc ls st := by
  subst hp
  obtain ⟨p, l', e, R, s, m, args, below, meth, c, Z', n0', Q'⟩ := κ
  obtain ⟨rfl, rfl, rfl, rfl, hQ, hx, hZ, hown, hby, hml, hret, hlk, hnm, hh⟩ := D
  intro vm0 k0 T locs X hS hk V O eT N
  have hZ0 : Z'.Warmed39 (s.setVm vm0).vm := State.Warmed39.trans (t := s) hZ hS.1
  have hown0 : (s.setVm vm0).vm.findClass y.cls = some m.cls := by show vm0.findClass _ = _; rw [hS.1.alike.findClass]; exact hown
  obtain ⟨cq, kq, q1, q2, q3⟩ := isOf hZ0 eT E
  obtain ⟨v, vm₁, ⟨T1, L1, k1, n1⟩, -, X1, hS1, hsz, ⟨Lc, σ', hQ1, l1, y1, z1⟩, st1⟩ := X.virtualBackS hx (y := zr) (z := z) hown0 (mvT hZ0 w1) (mvT hZ0 w2) (nf _ hZ0) (mvT hZ0 ws) (mvT hZ0 wi) hz (backOfW (W := W) M hZ0 w4 w3 hf hlo) q1 q3 (g := mkF m pc ls st) rfl (hls.trans hml.symm) (Steps.refl _) (argsL := argsL) (rest := rest) (lenOf hpd hlen) hst (by show 2 * 0 + _ ≤ _; rw [hW]; omega) (hb hby hd) (fun vm₁ hw1 => ⟨rfl, eT, Nat.le_trans hce hc, Nat.le_trans hsl hs, V.warm hw1, by show Old _ _ T.heap; rw [eT]; exact O⟩)
  dsimp only [Pt.U, Pt.locs, Pt.cells, Pt.slots] at X1 l1 y1 z1 st1 hQ1 hS1 hsz
  subst l1 y1 z1
  obtain ⟨s₂, o, g1, g2⟩ := G v T1.heap σ' hQ1.2.2.2 T1.vm T1.heap.size T1 _ (sd_mono X1 hce hsl) (hS.trans hS1 (by rw [eT] at hsz; exact Nat.le_trans hk hsz)) (Nat.le_refl _) hQ1.2.1 hQ1.2.2.1 rfl (Fr.app N hQ1.1)
  exact ⟨s₂, o, st1.trans g1, g2⟩
theorem nfS {C : String} {y : MethodName} (h : (Jvm.Cond.selects C y y).before a0 Z = true) : ∀ s : State, Z.Warmed39 s.vm → NotFace s y := fun s hZ => notFace_of_selects (args := #[]) (mvT hZ h)
end Calls
/-! String constants -/
/-- a constant whose text nobody reads -/
theorem Go.ldcR (D : Amb κ l Z y code maxL ret rm h0 n0 Q) {idx n : Nat} {text : String} (w : (Jvm.Cond.stringLink y.cls idx text).before a0 Z = true) (wS : ∀ a ∈ Bundle.stringAtoms, a.before a0 Z = true) (hd : decode code pc = .ok (.ldc idx, 2)) (hp : pc + 2 = pc') (hn : 4 * text.toList.length ≤ n) (hbig : n ≤ 536870912) (hce : ce + 2 = ce') (hsl : sl + (n + 4) = sl') (hc : ce' ≤ rm.cells) (hs : sl' ≤ rm.slots)
    (G : ∀ h' a, Ext h h' → Go κ none h' ce' sl' pc' ls (.ref a :: st)) : Go κ none h ce sl pc ls st := by
  subst hp hce hsl
  obtain ⟨p, l', e, R, s, m, args, below, meth, c, Z', n0', Q'⟩ := κ
  obtain ⟨rfl, rfl, rfl, rfl, hQ, hx, hZ, hown, hby, hml, hret, hlk, hnm, hh⟩ := D
  intro vm0 k0 T locs X hS hk V O eT N
  have hZ0 : Z'.Warmed39 vm0 := State.Warmed39.trans (t := s) hZ hS.1
  have hown0 : vm0.findClass y.cls = some m.cls := by rw [hS.1.alike.findClass]; exact hown
  obtain ⟨a, T', h', k1, X', eT', E, hS', hk', -, -, k⟩ := ldcS X hx hZ0 hown0 w wS eT hS hk (g := mkF m pc ls st) rfl (hb hby hd) hn hbig hc hs
  obtain ⟨s₂, o, g1, g2⟩ := G h' a E T'.vm k1 T' locs X' hS' hk' trivial (O.ext E) eT' N
  exact ⟨s₂, o, k _ g1, g2⟩
/-- the same place of a walk, over a start that has the heap and the tables at hand -/
theorem reb {p : Program} {e : Env} {R : Room} {s : State} {m : MethodId} {args : Array Value} {below : List Frame} {meth : Method} {c : Code} {T : State} {locs : List Loc} (X : Stand p l e R s m args below meth c T locs ce sl) (hc : ce ≤ R.cells) (hs : sl ≤ R.slots) :
    Stand p l e { R with cells := R.cells - ce, slots := R.slots - sl } ({ (s.setVm T.vm) with heap := T.heap, slotsUsed := T.slotsUsed } : State) m args below meth c T [] 0 0 := by
  have Y := X.retabled X.warmed.wide
  refine { admits := X.admits, cas := X.cas, clock := X.clock, frames := X.frames, room := ?_, hears := Y.hears, method := Y.method, code := X.code, here := X.here, tail := X.tail, warmed := State.WarmedH.refl _, limits := X.limits, bytes := X.bytes, same := ?_ }
  · have r := Y.room
    have b := X.book
    have h1 := X.heapSize
    have h2 := X.used
    simp only [State.hasRoom, Bool.and_eq_true, decide_eq_true_eq] at r ⊢
    obtain ⟨⟨⟨⟨r1, r2⟩, r3⟩, r4⟩, r5⟩ := r
    refine ⟨⟨⟨⟨r1, r2⟩, ?_⟩, ?_⟩, b⟩
    · have r3' : s.heap.size + R.cells ≤ e.platform.maxCells := r3
      show T.heap.size + (R.cells - ce) ≤ e.platform.maxCells
      omega
    · have r4' : s.slotsUsed + R.slots ≤ e.platform.maxSlots := r4
      show T.slotsUsed + (R.slots - sl) ≤ e.platform.maxSlots
      omega
  · refine ⟨?_, Nat.le_refl _, by show T.heap.size ≤ T.heap.size + 0; omega, ?_, ?_, fun a c hc => ⟨c, hc, rfl, rfl, fun _ _ => rfl⟩⟩
    · have q := congrArg (fun u : State => u.setVm T.vm) X.same.1
      exact q
    · show T.slotsUsed = T.slotsUsed + ((T.heap.toList.drop T.heap.size).map (·.slots.size)).sum
      rw [List.drop_eq_nil_of_le (by simp)]; simp
    · show ((T.heap.toList.drop T.heap.size).map (·.slots.size)).sum ≤ 0
      rw [List.drop_eq_nil_of_le (by simp)]; simp
/-- a String that spells these bytes -/
def SC (Z : State) (h : Heap) (a : Addr) (z : Int32) (vs : List Value) : Prop := Exa Z h a "java/lang/String" ∧ Fld Z h a "java/lang/String" "coder" "B" (.int 0) ∧ ∃ (b : Addr) (k : ClassId), Fld Z h a "java/lang/String" "value" "[B" (.ref b) ∧ Arv Z h b k .byte z vs (.int 0)
theorem SC.ext {a : Addr} {z : Int32} {vs : List Value} (F : SC Z h a z vs) (E : Ext h h') : SC Z h' a z vs := by
  obtain ⟨f1, f2, b, k, f3, f4⟩ := F
  exact ⟨f1.ext E, f2.ext E, b, k, f3.ext E, f4.ext E⟩
theorem SC.wr {a s : Addr} {C : String} {n sl : Nat} {v : Value} {z : Int32} {vs : List Value} (S : SC Z h a z vs) (W : Wr h h' s sl v) (q : a ≠ s) (E : Exa Z h s C) (wi : (Jvm.Cond.instantiable C n).before a0 Z = true) : SC Z h' a z vs := by
  obtain ⟨f1, f2, b, k, f3, f4⟩ := S
  exact ⟨f1.wr W, f2.other W (Or.inl q), b, k, f3.other W (Or.inl q), f4.other W (Ne.symm (Exa.neArv E f4 wi))⟩
/-- a constant that this walk has loaded -/
theorem Go.ldcA (D : Amb κ l Z y code maxL ret rm h0 n0 Q) {idx : Nat} {text : String} {L : List (String × Nat × String × Addr)} {a : Addr} (w : (Jvm.Cond.stringLink y.cls idx text).before a0 Z = true) (ha : (y.cls, idx, text, a) ∈ L) (hd : decode code pc = .ok (.ldc idx, 2)) (hp : pc + 2 = pc') (G : Go κ (some L) h ce sl pc' ls (.ref a :: st)) : Go κ (some L) h ce sl pc ls st := by
  subst hp
  obtain ⟨p, l', e, R, s, m, args, below, meth, c, Z', n0', Q'⟩ := κ
  obtain ⟨rfl, rfl, rfl, rfl, hQ, hx, hZ, hown, hby, hml, hret, hlk, hnm, hh0⟩ := D
  intro vm0 k0 T locs X hS hk V O eT N
  have hZ0 : Z'.Warmed39 vm0 := State.Warmed39.trans (t := s) hZ hS.1
  have hown0 : vm0.findClass y.cls = some m.cls := by rw [hS.1.alike.findClass]; exact hown
  have Lt : Lit (s.setVm vm0) y.cls idx a := V.2 _ ha
  have k := ldcAgain X hx hZ0 hown0 w Lt (g := mkF m pc ls st) rfl (hb hby hd)
  obtain ⟨s₂, o, g1, g2⟩ := G vm0 k0 T locs X hS hk V O eT N
  exact ⟨s₂, o, k _ g1, g2⟩
/-- a constant whose text is read -/
theorem Go.ldcT (D : Amb κ l Z y code maxL ret rm h0 n0 Q) {idx n : Nat} {text : String} {L : List (String × Nat × String × Addr)} {vs : List Value} {z : Int32} (w : (Jvm.Cond.stringLink y.cls idx text).before a0 Z = true) (wS : ∀ a ∈ Bundle.stringAtoms, a.before a0 Z = true) (hh : Jvm.Lit.constHeld Z y.cls idx) (hcw : Jvm.Lit.compactW.before a0 Z = true)
    (ht : (∀ c ∈ text.toList, c.toNat < 256) ∧ text.toList.map (fun c => Value.int (Jvm.Lit.byteI c.toNat.toUInt16)) = vs) (hz : ¬ z < 0) (hl : z.toNatClampNeg = vs.length) (hL : (∃ a, (y.cls, idx, text, a) ∈ L) ∨ text ∉ L.map fun q => q.2.2.1) (I : ∀ a, (y.cls, idx, text, a) ∈ L → SC Z h a z vs)
    (hd : decode code pc = .ok (.ldc idx, 2)) (hp : pc + 2 = pc') (hn : 4 * text.toList.length ≤ n) (hbig : n ≤ 536870912) (hce : ce + 2 = ce') (hsl : sl + (n + 4) = sl') (hc : ce' ≤ rm.cells) (hs : sl' ≤ rm.slots)
    (G : ∀ h' a L', Ext h h' → (y.cls, idx, text, a) ∈ L' → (L' = L ∨ L' = (y.cls, idx, text, a) :: L) → SC Z h' a z vs → Go κ (some L') h' ce' sl' pc' ls (.ref a :: st)) : Go κ (some L) h ce sl pc ls st := by
  subst hp hce hsl
  obtain ⟨p, l', e, R, s, m, args, below, meth, c, Z', n0', Q'⟩ := κ
  obtain ⟨rfl, rfl, rfl, rfl, hQ, hx, hZ, hown, hby, hml, hret, hlk, hnm, hh0⟩ := D
  intro vm0 k0 T locs X hS hk V O eT N
  have hZ0 : Z'.Warmed39 vm0 := State.Warmed39.trans (t := s) hZ hS.1
  have hown0 : vm0.findClass y.cls = some m.cls := by rw [hS.1.alike.findClass]; exact hown
  rcases hL with ⟨a, ha⟩ | hnot
  · have Lt : Lit (s.setVm vm0) y.cls idx a := V.2 _ ha
    have k := ldcAgain X hx hZ0 hown0 w Lt (g := mkF m pc ls st) rfl (hb hby hd)
    obtain ⟨s₂, o, g1, g2⟩ := G h a L ⟨Nat.le_refl _, fun _ _ q => q⟩ ha (Or.inl rfl) (I a ha) vm0 k0 T locs (sd_mono X (by omega) (by omega)) hS hk V O eT N
    exact ⟨s₂, o, k _ g1, g2⟩
  · have hc0 : ce ≤ R.cells := by omega
    have hs0 : sl ≤ R.slots := by omega
    have Y := reb X hc0 hs0
    have hZT : Z'.Warmed39 T.vm := State.Warmed39.trans (t := s.setVm vm0) hZ0 X.warmed.wide
    have hownT : T.vm.findClass y.cls = some m.cls := by rw [X.warmed.alike.findClass]; exact hown0
    have VT : VOk Z' T.vm (some L) := V.warm X.warmed
    obtain ⟨a, T', h', k1, b, kb, X', eT', E, hS', hk', hW', -, F1, F2, F3, F4, -, -, hI, hLit, k⟩ := ldcSVL (s := ({ ((s.setVm vm0).setVm T.vm) with heap := T.heap, slotsUsed := T.slotsUsed } : State)) (vm0 := T.vm) Y hx hZT hownT w wS eT (k0 := h.size) ((State.WarmedH.refl _).since _) (Nat.le_refl _) (Fr.nil _) (fun b cl hb => by show T.heap[b]? = _; rw [eT]; exact O.2.2 b cl hb) VT.1 hnot hh hcw ht hz hl (g := mkF m pc ls st) rfl (hb hby hd) hn hbig (by show 0 + 2 ≤ R.cells - ce; omega) (by show 0 + (n + 4) ≤ R.slots - sl; omega)
    have hT39 : T.Warmed39 T'.vm := hS'.1
    have hTB : T.Booked T'.vm T'.heap.size := State.Booked.mono (s := T) hS'.2 (by rw [eT']; exact hk')
    have hsame : T.sameButNew (T'.setVm T.vm) [] 2 (n + 4) := by
      obtain ⟨q1, q2, q3, q4, q5, q6⟩ := X'.same
      refine ⟨?_, q2, by have := q3; simp only [Nat.zero_add] at this; exact this, q4, by have := q5; simp only [Nat.zero_add] at this; exact this, q6⟩
      have r1 := congrArg (fun u : State => u.setVm T.vm) q1
      have r2 : (T'.setVm T.vm) = ({ ((s.setVm vm0).setVm T.vm).setFrames T'.frames with heap := T'.heap, slotsUsed := T'.slotsUsed } : State) := r1
      have r3 := congrArg (fun u : State => ({ (u.setVm T.vm).setFrames T'.frames with heap := T'.heap, slotsUsed := T'.slotsUsed } : State)) X.same.1
      have r4 : ({ T.setFrames T'.frames with heap := T'.heap, slotsUsed := T'.slotsUsed } : State) = ({ (((s.setVm vm0).setVm T.vm).setFrames T.frames).setFrames T'.frames with heap := T'.heap, slotsUsed := T'.slotsUsed } : State) := r3
      rw [State.setFrames_setFrames] at r4
      exact r2.trans r4.symm
    obtain ⟨X2, hS2⟩ := X.movedW X'.here X'.tail (X'.limits.trans X.limits.symm) (X'.bytes.trans X.bytes.symm) hT39 hTB hsame
    have V2 : VOk Z' T'.vm (some ((y.cls, idx, text, a) :: L)) := by
      refine ⟨hI, fun q hq => ?_⟩
      rcases List.mem_cons.mp hq with rfl | hq
      · exact hLit
      · have h1 : Lit (T.setVm T.vm) q.1 q.2.1 q.2.2.2 := VT.2 q hq
        exact Lit.stays (s := T) (vm0 := T.vm) h1 hT39
    have hle : h.size ≤ T'.heap.size := by rw [eT']; exact E.1
    obtain ⟨s₂, o, g1, g2⟩ := G h' a _ E (List.mem_cons_self ..) (Or.inr rfl) ⟨F1, F2, b, kb, F3, F4⟩ T'.vm T'.heap.size T' (locs ++ []) X2 (hS.trans hS2 (Nat.le_trans hk hle)) (by rw [eT']; exact Nat.le_refl _) V2 (O.ext E) eT' (by rw [List.append_nil]; exact N)
    exact ⟨s₂, o, k _ g1, g2⟩
end Rules
end Jvm.OwnKit

namespace Jvm.Pilot.@@N@@
open Jvm Jvm.ClassFile Sem Op Lib Jvm.Free Jvm.Stand Jvm.LawKit Jvm.RoadKit Bundle Jvm.OwnKit Jvm.Pilot.@@N@@.Jvm.D

/-! numbers -/
theorem own_ti {i : Nat} (h : i < 2147483648) : (Int32.ofNat i).toInt = i := Int32.toInt_ofNat_small (by omega)
theorem own_tn {i : Nat} (h : i < 2147483648) : (Int32.ofNat i).toNatClampNeg = i := by simp only [Int32.toNatClampNeg, own_ti h]; rfl
theorem own_nn {i : Nat} (h : i < 2147483648) : ¬ Int32.ofNat i < 0 := by rw [Int32.lt_iff_toInt_lt, own_ti h]; show ¬ (i : Int) < 0; omega
theorem own_lt {i j : Nat} (hi : i < 2147483648) (hj : j < 2147483648) : Int32.ofNat i < Int32.ofNat j ↔ i < j := by rw [Int32.lt_iff_toInt_lt, own_ti hi, own_ti hj]; omega
theorem own_inj {i j : Nat} (hi : i < 2147483648) (hj : j < 2147483648) (h : Int32.ofNat i = Int32.ofNat j) : i = j := by
  have := congrArg Int32.toInt h; rw [own_ti hi, own_ti hj] at this; omega
theorem own_succ (i : Nat) : Int32.ofNat i + 1 = Int32.ofNat (i + 1) := Int32.ofNat_succ i
theorem own_ne {a b : Nat} (h : a < b ∨ b < a) : a ≠ b := fun e => by subst e; omega
theorem own_ltn {a b : Nat} (h : a < b) : a < b := h
/-! chars and bytes -/
def bv (cs : List Int32) : List Value := cs.map fun c => Value.int c.toInt8.toInt32
def Lat (cs : List Int32) : Prop := (∀ c ∈ cs, ¬ c < 0 ∧ c < 256) ∧ cs.length ≤ 64
theorem bv_len (cs : List Int32) : (bv cs).length = cs.length := by simp [bv]
theorem own_bb (x : Int32) : nar .byte (x.toInt8.toInt32) = x.toInt8.toInt32 := by
  show x.toInt8.toInt32.toInt8.toInt32 = x.toInt8.toInt32
  rw [Int8.toInt8_toInt32]
theorem byte_inj {c d : Int32} (hc : ¬ c < 0 ∧ c < 256) (hd : ¬ d < 0 ∧ d < 256) (h : c.toInt8.toInt32 = d.toInt8.toInt32) : c = d := by
  have a := c_i2b c
  have b := c_i2b d
  rw [h] at a
  simp only [Int32.lt_iff_toInt_lt, show (0 : Int32).toInt = 0 from rfl, show (256 : Int32).toInt = 256 from rfl] at hc hd
  apply Int32.toInt_inj.mp
  omega
theorem bv_inj {cs ds : List Int32} (hc : ∀ c ∈ cs, ¬ c < 0 ∧ c < 256) (hd : ∀ c ∈ ds, ¬ c < 0 ∧ c < 256) (h : bv cs = bv ds) : cs = ds := by
  induction cs generalizing ds with
  | nil =>
    cases ds with
    | nil => rfl
    | cons d ds => simp [bv] at h
  | cons c cs ih =>
    cases ds with
    | nil => simp [bv] at h
    | cons d ds =>
      simp only [bv, List.map_cons, List.cons.injEq, Value.int.injEq] at h
      rw [byte_inj (hc c (by simp)) (hd d (by simp)) h.1, ih (fun x hx => hc x (by simp [hx])) (fun x hx => hd x (by simp [hx])) h.2]
theorem cs_at {cs : List Int32} {i : Nat} (h : i < cs.length) (d : Value) : (cs.map Value.int).getD i d = .int cs[i] := by simp [h]
theorem bv_at {cs : List Int32} {i : Nat} (h : i < cs.length) (d : Value) : (bv cs).getD i d = .int (cs[i].toInt8.toInt32) := by simp [bv, h]
theorem own_bset {cs : List Int32} {i : Nat} (h : i < cs.length) : ((bv cs).take i ++ List.replicate (cs.length - i) (Value.int 0)).set i (.int (cs[i].toInt8.toInt32)) = (bv cs).take (i + 1) ++ List.replicate (cs.length - (i + 1)) (Value.int 0) := by
  have hl : ((bv cs).take i).length = i := by rw [List.length_take, bv_len]; omega
  rw [show cs.length - i = (cs.length - (i + 1)) + 1 by omega, List.replicate_succ, List.set_append_right _ _ (by omega), hl, Nat.sub_self, List.set_cons_zero, List.take_add_one]
  have : (bv cs)[i]? = some (Value.int (cs[i].toInt8.toInt32)) := by simp [bv, h]
  rw [this]
  simp
theorem lat_le {c : Int32} (h : ¬ c < 0 ∧ c < 256) : ¬ (255 : Int32) < c := by
  simp only [Int32.lt_iff_toInt_lt, show (0 : Int32).toInt = 0 from rfl, show (256 : Int32).toInt = 256 from rfl, show (255 : Int32).toInt = 255 from rfl] at h ⊢
  omega
/-- the String a spells cs -/
def Str (Z : State) (h : Heap) (a : Addr) (cs : List Int32) : Prop := SC Z h a (Int32.ofNat cs.length) (bv cs) ∧ Lat cs
theorem Str.ext {Z : State} {h h' : Heap} {a : Addr} {cs : List Int32} (S : Str Z h a cs) (E : Ext h h') : Str Z h' a cs := ⟨S.1.ext E, S.2⟩
theorem Arv.uniq {Z : State} {h : Heap} {a : Addr} {k k' : ClassId} {ty : FieldType} {n n' : Int32} {vs ws : List Value} {d : Value} (A : Arv Z h a k ty n vs d) (B : Arv Z h a k' ty n' ws d) (hv : vs.length = n.toNatClampNeg) (hw : ws.length = n'.toNatClampNeg) : vs = ws := by
  obtain ⟨c, A1, -, A3, -, A5, -⟩ := A
  obtain ⟨c', B1, -, B3, -, B5, -⟩ := B
  cases A1.1.symm.trans B1.1
  apply List.ext_getElem (by omega)
  intro i h1 h2
  have q := (A5 i (by omega)).symm.trans (B5 i (by omega))
  simpa [h1, h2] using q
theorem Str.uniq {Z : State} {h : Heap} {a : Addr} {cs ds : List Int32} (S : Str Z h a cs) (S' : Str Z h a ds) : cs = ds := by
  obtain ⟨⟨-, -, b, k, F, A⟩, l1, l2⟩ := S
  obtain ⟨⟨-, -, b', k', F', A'⟩, l1', l2'⟩ := S'
  have e : b = b' := Classical.byContradiction fun q => Fld.ne F F' (fun z => q (by injection z)) rfl
  subst e
  exact bv_inj l1 l1' (Arv.uniq A A' (by rw [bv_len, own_tn (by omega)]) (by rw [bv_len, own_tn (by omega)]))
theorem Str.keep {Z : State} {a0 : Array Value} {h h' : Heap} {a s : Addr} {C : String} {n : Nat} {cs : List Int32} (S : Str Z h a cs) (K : Keep h h' [s]) (q : a ≠ s) (E : Exa Z h s C) (wi : (Jvm.Cond.instantiable C n).before a0 Z = true) : Str Z h' a cs := by
  obtain ⟨⟨f1, f2, b, k, f3, f4⟩, l⟩ := S
  exact ⟨⟨f1.keep K, f2.keep K (nin1 q), b, k, f3.keep K (nin1 q), f4.keep K (nin1 (Ne.symm (Exa.neArv E f4 wi)))⟩, l⟩
/-! the constants that are loaded -/
def tb (t : String) : List Value := t.toList.map fun c => Value.int (Jvm.Lit.byteI c.toNat.toUInt16)
def CsOk (CS : List (String × Nat × String)) (Z : State) (h : Heap) (L : List (String × Nat × String × Addr)) : Prop := ∀ q ∈ L, (q.1, q.2.1, q.2.2.1) ∈ CS ∧ SC Z h q.2.2.2 (Int32.ofNat (tb q.2.2.1).length) (tb q.2.2.1)
theorem CsOk.nil {CS : List (String × Nat × String)} {Z : State} {h : Heap} : CsOk CS Z h [] := fun q hq => nomatch hq
theorem CsOk.ext {CS : List (String × Nat × String)} {Z : State} {h h' : Heap} {L : List (String × Nat × String × Addr)} (C : CsOk CS Z h L) (E : Ext h h') : CsOk CS Z h' L := fun q hq => ⟨(C q hq).1, (C q hq).2.ext E⟩
theorem CsOk.wr {CS : List (String × Nat × String)} {Z : State} {a0 : Array Value} {h h' : Heap} {L : List (String × Nat × String × Addr)} {s : Addr} {C : String} {n sl : Nat} {v : Value} (K : CsOk CS Z h L) (W : Wr h h' s sl v) (hq : ∀ q ∈ L, q.2.2.2 ≠ s) (E : Exa Z h s C) (wi : (Jvm.Cond.instantiable C n).before a0 Z = true) : CsOk CS Z h' L := fun q hm => ⟨(K q hm).1, (K q hm).2.wr W (hq q hm) E wi⟩
theorem CsOk.has {CS : List (String × Nat × String)} {Z : State} {h : Heap} {L : List (String × Nat × String × Addr)} (K : CsOk CS Z h L) {own text : String} {idx : Nat} (hu : ∀ c ∈ CS, c.2.2 = text → c = (own, idx, text)) : (∃ a, (own, idx, text, a) ∈ L) ∨ text ∉ L.map fun q => q.2.2.1 := by
  by_cases q : text ∈ L.map fun q => q.2.2.1
  · obtain ⟨x, hx, e⟩ := List.mem_map.mp q
    have := hu _ (K x hx).1 e
    obtain ⟨x1, x2, x3, x4⟩ := x
    simp only [Prod.mk.injEq] at this
    obtain ⟨rfl, rfl, rfl⟩ := this
    exact Or.inl ⟨x4, hx⟩
  · exact Or.inr q
theorem CsOk.step {CS : List (String × Nat × String)} {Z : State} {h h' : Heap} {L L' : List (String × Nat × String × Addr)} {own text : String} {idx : Nat} {a : Addr} (K : CsOk CS Z h L) (E : Ext h h') (hm : (own, idx, text) ∈ CS) (hL : L' = L ∨ L' = (own, idx, text, a) :: L) (S : SC Z h' a (Int32.ofNat (tb text).length) (tb text)) : CsOk CS Z h' L' := by
  rcases hL with rfl | rfl
  · exact K.ext E
  · intro q hq
    rcases List.mem_cons.mp hq with rfl | hq
    · exact ⟨hm, S⟩
    · exact (K.ext E) q hq

abbrev CS : List (String × Nat × String) := [("com/example/ticks_into_totals/ticksintototals/CounterNameCheckTokenPinLaw", 8, "ns"), ("com/example/ticks_into_totals/ticksintototals/CounterNameCheckTokenPinLaw", 10, "field"), ("com/example/ticks_into_totals/ticksintototals/CounterNameCheckTokenPinLaw", 12, "ABCDEFGHIJKLMNOPQRSTUVWXYZabcdefghijklmnopqrstuvwxyz0123456789_-")]
theorem wS {Z : State} {a0 : Array Value} (hw : ∀ d ∈ tables_1, d.before a0 Z = true) : ∀ a ∈ Bundle.stringAtoms, a.before a0 Z = true := fun a ha => hw a ((by decide +kernel : ∀ a ∈ Bundle.stringAtoms, a ∈ tables_1) a ha)
abbrev y18 : MethodName := ⟨"java/lang/StringUTF16", "compress", "([CI[BII)I"⟩
theorem d18_0 : decode jdk_52_method_21_code 0 = .ok (.iconst 0, 1) := by decide +kernel
theorem d18_1 : decode jdk_52_method_21_code 1 = .ok (.istore 5, 2) := by decide +kernel
theorem d18_3 : decode jdk_52_method_21_code 3 = .ok (.iload 5, 2) := by decide +kernel
theorem d18_5 : decode jdk_52_method_21_code 5 = .ok (.iload 4, 2) := by decide +kernel
theorem d18_7 : decode jdk_52_method_21_code 7 = .ok (.if_icmp .ge 37, 3) := by decide +kernel
theorem d18_10 : decode jdk_52_method_21_code 10 = .ok (.aload_n 0, 1) := by decide +kernel
theorem d18_11 : decode jdk_52_method_21_code 11 = .ok (.iload_n 1, 1) := by decide +kernel
theorem d18_12 : decode jdk_52_method_21_code 12 = .ok (.caload, 1) := by decide +kernel
theorem d18_13 : decode jdk_52_method_21_code 13 = .ok (.istore 6, 2) := by decide +kernel
theorem d18_15 : decode jdk_52_method_21_code 15 = .ok (.iload 6, 2) := by decide +kernel
theorem d18_17 : decode jdk_52_method_21_code 17 = .ok (.sipush 255, 3) := by decide +kernel
theorem d18_20 : decode jdk_52_method_21_code 20 = .ok (.if_icmp .le 6, 3) := by decide +kernel
theorem d18_23 : decode jdk_52_method_21_code 23 = .ok (.iload 5, 2) := by decide +kernel
theorem d18_25 : decode jdk_52_method_21_code 25 = .ok (.ireturn, 1) := by decide +kernel
theorem d18_26 : decode jdk_52_method_21_code 26 = .ok (.aload_n 2, 1) := by decide +kernel
theorem d18_27 : decode jdk_52_method_21_code 27 = .ok (.iload_n 3, 1) := by decide +kernel
theorem d18_28 : decode jdk_52_method_21_code 28 = .ok (.iload 6, 2) := by decide +kernel
theorem d18_30 : decode jdk_52_method_21_code 30 = .ok (.i2b, 1) := by decide +kernel
theorem d18_31 : decode jdk_52_method_21_code 31 = .ok (.bastore, 1) := by decide +kernel
theorem d18_32 : decode jdk_52_method_21_code 32 = .ok (.iinc 1 1, 3) := by decide +kernel
theorem d18_35 : decode jdk_52_method_21_code 35 = .ok (.iinc 3 1, 3) := by decide +kernel
theorem d18_38 : decode jdk_52_method_21_code 38 = .ok (.iinc 5 1, 3) := by decide +kernel
theorem d18_41 : decode jdk_52_method_21_code 41 = .ok (.goto (-38), 3) := by decide +kernel
theorem d18_44 : decode jdk_52_method_21_code 44 = .ok (.iload 4, 2) := by decide +kernel
theorem d18_46 : decode jdk_52_method_21_code 46 = .ok (.ireturn, 1) := by decide +kernel
theorem pd18 : parseMethodDescriptor "([CI[BII)I" = some ⟨[(.array .char), .int, (.array .byte), .int, .int], (some .int)⟩ := by decide +kernel
theorem pn18 : plainFor y18 = true := by first | exact plainFor_of_name (by first | (simp [plainName, overriddenIn]; done) | decide +kernel) | decide +kernel | rfl
set_option maxRecDepth 65536 in
set_option maxHeartbeats 40000000 in
theorem con_cmp2 (l : Launch) (Z : State) (a0 : Array Value) (hw : ∀ d ∈ tables_1, d.before a0 Z = true) (h0 : Heap) (n0 : Nat) (σ : Sg) (a b : Addr) (ka kb : ClassId) (cs : List Int32) (A : Arv Z h0 a ka .char (Int32.ofNat cs.length) (cs.map Value.int) (.int 0)) (B0 : Arv Z h0 b kb .byte (Int32.ofNat cs.length) (List.replicate cs.length (Value.int 0)) (.int 0)) (hp : Lat cs) (nab : a ≠ b) (gb : n0 ≤ b) :
    Con l Z y18 jdk_52_method_21_code 7 ((some .int)) ({ frames := 0, cells := 0, slots := 0, locals := 0 } : Room) [] #[(.ref a), (.int (0 : Int32)), (.ref b), (.int (0 : Int32)), (.int (Int32.ofNat cs.length))] σ h0 n0 (fun v h τ => σ = τ ∧ v = some (.int (Int32.ofNat cs.length)) ∧ Keep h0 h [b] ∧ Arv Z h b kb .byte (Int32.ofNat cs.length) (bv cs) (.int 0)) := by
  refine Con.of_go pn18 (ls := #[.val (.ref a), .val (.int (0 : Int32)), .val (.ref b), .val (.int (0 : Int32)), .val (.int (Int32.ofNat cs.length)), .unset, .unset]) (fun m => by first | (simp [entryFrame, mkF, argsToLocals, Value.category]; done) | rfl) ?_
  intro κ D
  have hl := hp.2
  have loop : ∀ (N i : Nat) (h : Heap) (s6 : Slot), cs.length - i = N → i ≤ cs.length → Keep h0 h [b] → Arv Z h b kb .byte (Int32.ofNat cs.length) ((bv cs).take i ++ List.replicate (cs.length - i) (Value.int 0)) (.int 0) → (s6 = .unset ∨ ∃ w, s6 = .val w ∧ w.category = 1) → Go κ σ h 0 0 3 #[.val (.ref a), .val (.int (Int32.ofNat i)), .val (.ref b), .val (.int (Int32.ofNat i)), .val (.int (Int32.ofNat cs.length)), .val (.int (Int32.ofNat i)), s6] [] := by
    intro N
    induction N using Nat.strongRecOn with
    | _ N ih =>
      intro i h s6 hN hi0 K B hs6
      refine Go.iload D (pc' := 5) d18_3 rfl rfl ?_
      refine Go.iload D (pc' := 7) d18_5 rfl rfl ?_
      refine Go.icmp D (pc' := 44) (pc2 := 10) d18_7 (by decide) (by decide) rfl ?_ ?_
      · intro (hc7 : ¬ (Int32.ofNat i) < (Int32.ofNat cs.length))
        refine Go.iload D (pc' := 46) d18_44 rfl rfl ?_
        refine Go.iret D rfl d18_46 (by decide) (by decide) ?_
        have hi : i = cs.length := by
          have : ¬ i < cs.length := fun q => hc7 ((own_lt (by omega) (by omega)).mpr q)
          omega
        subst hi
        refine ⟨rfl, rfl, K, ?_⟩
        rw [Nat.sub_self, List.replicate_zero, List.append_nil, List.take_of_length_le (by rw [bv_len]; exact Nat.le_refl _)] at B
        exact B
      · intro (hc7 : (Int32.ofNat i) < (Int32.ofNat cs.length))
        refine Go.aloadN D (pc' := 11) d18_10 rfl rfl rfl ?_
        refine Go.iloadN D (pc' := 12) d18_11 rfl rfl ?_
        have hi : i < cs.length := (own_lt (by omega) (by omega)).mp hc7
        refine Go.caload D (pc' := 13) d18_12 rfl (A.keep K (nin1 nab)) (own_nn (by omega)) ((own_lt (by omega) (by omega)).mpr hi) (v := .int cs[i]) (by rw [own_tn (by omega)]; exact cs_at hi _) ?_
        refine Go.istoreU D (pc' := 15) d18_13 rfl rfl hs6 (ls' := #[.val (.ref a), .val (.int (Int32.ofNat i)), .val (.ref b), .val (.int (Int32.ofNat i)), .val (.int (Int32.ofNat cs.length)), .val (.int (Int32.ofNat i)), .val (.int cs[i])]) rfl ?_
        refine Go.iload D (pc' := 17) d18_15 rfl rfl ?_
        refine Go.sipush D (pc' := 20) d18_17 rfl (v := (255 : Int32)) rfl ?_
        refine Go.icmp D (pc' := 26) (pc2 := 23) d18_20 (by decide) (by decide) rfl ?_ ?_
        · intro (hc20 : ¬ (255 : Int32) < cs[i])
          refine Go.aloadN D (pc' := 27) d18_26 rfl rfl rfl ?_
          refine Go.iloadN D (pc' := 28) d18_27 rfl rfl ?_
          refine Go.iload D (pc' := 30) d18_28 rfl rfl ?_
          refine Go.i2b D (pc' := 31) d18_30 rfl  ?_
          refine Go.bastore D (pc' := 32) (i := i) d18_31 rfl B (own_nn (by omega)) ((own_lt (by omega) (by omega)).mpr hi) (own_tn (by omega)) (by simp [bv]; omega) gb (own_bb _) ?_
          intro h2 K2 B2
          refine Go.iinc D (pc' := 35) d18_32 rfl rfl (d := (1 : Int32)) rfl (ls' := #[.val (.ref a), .val (.int ((Int32.ofNat i) + (1 : Int32))), .val (.ref b), .val (.int (Int32.ofNat i)), .val (.int (Int32.ofNat cs.length)), .val (.int (Int32.ofNat i)), .val (.int cs[i])]) rfl ?_
          refine Go.iinc D (pc' := 38) d18_35 rfl rfl (d := (1 : Int32)) rfl (ls' := #[.val (.ref a), .val (.int ((Int32.ofNat i) + (1 : Int32))), .val (.ref b), .val (.int ((Int32.ofNat i) + (1 : Int32))), .val (.int (Int32.ofNat cs.length)), .val (.int (Int32.ofNat i)), .val (.int cs[i])]) rfl ?_
          refine Go.iinc D (pc' := 41) d18_38 rfl rfl (d := (1 : Int32)) rfl (ls' := #[.val (.ref a), .val (.int ((Int32.ofNat i) + (1 : Int32))), .val (.ref b), .val (.int ((Int32.ofNat i) + (1 : Int32))), .val (.int (Int32.ofNat cs.length)), .val (.int ((Int32.ofNat i) + (1 : Int32))), .val (.int cs[i])]) rfl ?_
          refine Go.goto D (pc' := 3) d18_41 (by decide) (by decide) ?_
          rw [own_succ]
          rw [own_bset hi] at B2
          exact ih (cs.length - (i + 1)) (by omega) (i + 1) h2 _ rfl (by omega) (K.trans K2 (fun x hx => Or.inl hx)) B2 (Or.inr ⟨_, rfl, rfl⟩)
        · intro (hc20 : (255 : Int32) < cs[i])
          exact absurd hc20 (lat_le (hp.1 _ (List.getElem_mem hi)))
  refine Go.iconst D (pc' := 1) d18_0 rfl (v := (0 : Int32)) rfl ?_
  refine Go.istore D (pc' := 3) d18_1 rfl (ls' := #[.val (.ref a), .val (.int (0 : Int32)), .val (.ref b), .val (.int (0 : Int32)), .val (.int (Int32.ofNat cs.length)), .val (.int (0 : Int32)), .unset]) rfl ?_
  rw [show (0 : Int32) = Int32.ofNat 0 from rfl]
  exact loop (cs.length - 0) 0 h0 _ rfl (by omega) (Keep.refl _ _) (by simpa using B0) (Or.inl rfl)
abbrev y17 : MethodName := ⟨"java/lang/StringUTF16", "compress", "([CII)[B"⟩
theorem d17_0 : decode jdk_52_method_16_code 0 = .ok (.iload_n 2, 1) := by decide +kernel
theorem d17_1 : decode jdk_52_method_16_code 1 = .ok (.newarray .byte, 2) := by decide +kernel
theorem d17_3 : decode jdk_52_method_16_code 3 = .ok (.astore_n 3, 1) := by decide +kernel
theorem d17_4 : decode jdk_52_method_16_code 4 = .ok (.aload_n 0, 1) := by decide +kernel
theorem d17_5 : decode jdk_52_method_16_code 5 = .ok (.iload_n 1, 1) := by decide +kernel
theorem d17_6 : decode jdk_52_method_16_code 6 = .ok (.aload_n 3, 1) := by decide +kernel
theorem d17_7 : decode jdk_52_method_16_code 7 = .ok (.iconst 0, 1) := by decide +kernel
theorem d17_8 : decode jdk_52_method_16_code 8 = .ok (.iload_n 2, 1) := by decide +kernel
theorem d17_9 : decode jdk_52_method_16_code 9 = .ok (.invokestatic 115, 3) := by decide +kernel
theorem d17_12 : decode jdk_52_method_16_code 12 = .ok (.istore 4, 2) := by decide +kernel
theorem d17_14 : decode jdk_52_method_16_code 14 = .ok (.iload 4, 2) := by decide +kernel
theorem d17_16 : decode jdk_52_method_16_code 16 = .ok (.iload_n 2, 1) := by decide +kernel
theorem d17_17 : decode jdk_52_method_16_code 17 = .ok (.if_icmp .eq 40, 3) := by decide +kernel
theorem d17_57 : decode jdk_52_method_16_code 57 = .ok (.aload_n 3, 1) := by decide +kernel
theorem d17_58 : decode jdk_52_method_16_code 58 = .ok (.areturn, 1) := by decide +kernel
theorem pd17 : parseMethodDescriptor "([CII)[B" = some ⟨[(.array .char), .int, .int], (some (.array .byte))⟩ := by decide +kernel
theorem pn17 : plainFor y17 = true := by first | exact plainFor_of_name (by first | (simp [plainName, overriddenIn]; done) | decide +kernel) | decide +kernel | rfl
set_option maxRecDepth 65536 in
set_option maxHeartbeats 40000000 in
theorem con_cmp1 (l : Launch) (Z : State) (a0 : Array Value) (hw : ∀ d ∈ tables_1, d.before a0 Z = true) (h0 : Heap) (n0 : Nat) (Z0 : n0 ≤ h0.size) (σ : Sg) (a : Addr) (ka : ClassId) (cs : List Int32) (A : Arv Z h0 a ka .char (Int32.ofNat cs.length) (cs.map Value.int) (.int 0)) (hp : Lat cs) :
    Con l Z y17 jdk_52_method_16_code 6 ((some (.array .byte))) ({ frames := 1, cells := 1, slots := 64, locals := 18 } : Room) [] #[(.ref a), (.int (0 : Int32)), (.int (Int32.ofNat cs.length))] σ h0 n0 (fun v h τ => σ = τ ∧ ∃ b kb, v = some (.ref b) ∧ h0.size ≤ b ∧ Ext h0 h ∧ Arv Z h b kb .byte (Int32.ofNat cs.length) (bv cs) (.int 0)) := by
  refine Con.of_go pn17 (ls := #[.val (.ref a), .val (.int (0 : Int32)), .val (.int (Int32.ofNat cs.length)), .unset, .unset, .unset]) (fun m => by first | (simp [entryFrame, mkF, argsToLocals, Value.category]; done) | rfl) ?_
  intro κ D
  have hl := hp.2
  have qa := own_ltn A.lt
  refine Go.iloadN D (pc' := 1) d17_0 rfl rfl ?_
  refine Go.newP D (pc' := 3) (aty := .byte) (cap := 64) (ce' := 1) (sl' := 64) (hw _ (List.mem_of_getElem? (i := 3) rfl)) d17_1 rfl (own_nn (by omega)) (by rw [own_tn (by omega)]; omega) (by decide) rfl rfl (by decide) (by decide) ?_
  intro h1 b kb gb E1 B1
  refine Go.astoreN D (pc' := 4) d17_3 rfl rfl (ls' := #[.val (.ref a), .val (.int (0 : Int32)), .val (.int (Int32.ofNat cs.length)), .val (.ref b), .unset, .unset]) rfl ?_
  refine Go.aloadN D (pc' := 5) d17_4 rfl rfl rfl ?_
  refine Go.iloadN D (pc' := 6) d17_5 rfl rfl ?_
  refine Go.aloadN D (pc' := 7) d17_6 rfl rfl rfl ?_
  refine Go.iconst D (pc' := 8) d17_7 rfl (v := (0 : Int32)) rfl ?_
  refine Go.iloadN D (pc' := 9) d17_8 rfl rfl ?_
  refine Go.callS D (argsL := [(.ref a), (.int (0 : Int32)), (.ref b), (.int (0 : Int32)), (.int (Int32.ofNat cs.length))]) (rest := []) (pc' := 12) (ce' := 1) (sl' := 64) (con_cmp2 l Z a0 hw h1 n0 σ a b ka kb cs (A.ext E1) (B1.pad (vs' := List.replicate cs.length (.int 0)) (fun i => pad_rep [] (.int 0) cs.length i)) hp (own_ne (by omega)) (by omega)) (hw _ (List.mem_of_getElem? (i := 84) rfl)) (hw _ (List.mem_of_getElem? (i := 85) rfl)) (hw _ (List.mem_of_getElem? (i := 82) rfl)) (hw _ (List.mem_of_getElem? (i := 86) rfl)) (by decide) d17_9 rfl pd18 rfl rfl rfl (by decide) (W := 0) rfl (by decide) (by decide) (by decide) (by decide) (by decide) ?_
  intro v9 h2 σ9 q9
  obtain ⟨rfl, rfl, K2, B2⟩ := q9
  show Go κ σ h2 1 64 12 #[.val (.ref a), .val (.int (0 : Int32)), .val (.int (Int32.ofNat cs.length)), .val (.ref b), .unset, .unset] [(.int (Int32.ofNat cs.length))]
  refine Go.istore D (pc' := 14) d17_12 rfl (ls' := #[.val (.ref a), .val (.int (0 : Int32)), .val (.int (Int32.ofNat cs.length)), .val (.ref b), .val (.int (Int32.ofNat cs.length)), .unset]) rfl ?_
  refine Go.iload D (pc' := 16) d17_14 rfl rfl ?_
  refine Go.iloadN D (pc' := 17) d17_16 rfl rfl ?_
  refine Go.icmp D (pc' := 57) (pc2 := 20) d17_17 (by decide) (by decide) rfl ?_ ?_
  · intro (hc17 : (Int32.ofNat cs.length) = (Int32.ofNat cs.length))
    refine Go.aloadN D (pc' := 58) d17_57 rfl rfl rfl ?_
    refine Go.aret D rfl rfl rfl d17_58 (by decide) (by decide) ?_
    exact ⟨rfl, b, kb, rfl, by omega, E1.keepN K2 (by omega), B2⟩
  · intro (hc17 : ¬ (Int32.ofNat cs.length) = (Int32.ofNat cs.length))
    exact absurd rfl hc17
abbrev y19 : MethodName := ⟨"java/lang/StringUTF16", "coderFromArrayLen", "([BI)B"⟩
theorem d19_0 : decode jdk_52_method_15_code 0 = .ok (.iload_n 1, 1) := by decide +kernel
theorem d19_1 : decode jdk_52_method_15_code 1 = .ok (.aload_n 0, 1) := by decide +kernel
theorem d19_2 : decode jdk_52_method_15_code 2 = .ok (.arraylength, 1) := by decide +kernel
theorem d19_3 : decode jdk_52_method_15_code 3 = .ok (.isub, 1) := by decide +kernel
theorem d19_4 : decode jdk_52_method_15_code 4 = .ok (.bipush 31, 2) := by decide +kernel
theorem d19_6 : decode jdk_52_method_15_code 6 = .ok (.iushr, 1) := by decide +kernel
theorem d19_7 : decode jdk_52_method_15_code 7 = .ok (.i2b, 1) := by decide +kernel
theorem d19_8 : decode jdk_52_method_15_code 8 = .ok (.ireturn, 1) := by decide +kernel
theorem pd19 : parseMethodDescriptor "([BI)B" = some ⟨[(.array .byte), .int], (some .byte)⟩ := by decide +kernel
theorem pn19 : plainFor y19 = true := by first | exact plainFor_of_name (by first | (simp [plainName, overriddenIn]; done) | decide +kernel) | decide +kernel | rfl
set_option maxRecDepth 65536 in
set_option maxHeartbeats 40000000 in
theorem con_coder (l : Launch) (Z : State) (a0 : Array Value) (hw : ∀ d ∈ tables_1, d.before a0 Z = true) (h0 : Heap) (n0 : Nat) (σ : Sg) (b : Addr) (kb : ClassId) (n : Int32) (vs : List Value) (B : Arv Z h0 b kb .byte n vs (.int 0)) :
    Con l Z y19 jdk_52_method_15_code 2 ((some .byte)) ({ frames := 0, cells := 0, slots := 0, locals := 0 } : Room) [] #[(.ref b), (.int n)] σ h0 n0 (fun v h τ => h0 = h ∧ σ = τ ∧ v = some (.int 0)) := by
  refine Con.of_go pn19 (ls := #[.val (.ref b), .val (.int n)]) (fun m => by first | (simp [entryFrame, mkF, argsToLocals, Value.category]; done) | rfl) ?_
  intro κ D
  refine Go.iloadN D (pc' := 1) d19_0 rfl rfl ?_
  refine Go.aloadN D (pc' := 2) d19_1 rfl rfl rfl ?_
  refine Go.alen D (pc' := 3) d19_2 rfl B ?_
  refine Go.isub D (pc' := 4) d19_3 rfl  ?_
  refine Go.bipush D (pc' := 6) d19_4 rfl (v := (31 : Int32)) rfl ?_
  refine Go.iushr D (pc' := 7) d19_6 rfl  ?_
  refine Go.i2b D (pc' := 8) d19_7 rfl  ?_
  have e0 : ((ushr (n - n) (31 : Int32)).toInt8).toInt32 = (0 : Int32) := by rw [Int32.sub_self]; decide
  rw [e0]
  refine Go.bret D rfl rfl d19_8 (by decide) (by decide) ?_
  exact ⟨rfl, rfl, rfl⟩
abbrev y15 : MethodName := ⟨"java/lang/String", "<init>", "([CIILjava/lang/Void;)V"⟩
theorem d15_0 : decode jdk_42_method_149_code 0 = .ok (.aload_n 0, 1) := by decide +kernel
theorem d15_1 : decode jdk_42_method_149_code 1 = .ok (.invokespecial 1, 3) := by decide +kernel
theorem d15_4 : decode jdk_42_method_149_code 4 = .ok (.iload_n 3, 1) := by decide +kernel
theorem d15_5 : decode jdk_42_method_149_code 5 = .ok (.ifCond .ne 22, 3) := by decide +kernel
theorem d15_27 : decode jdk_42_method_149_code 27 = .ok (.getstatic 38, 3) := by decide +kernel
theorem d15_30 : decode jdk_42_method_149_code 30 = .ok (.ifCond .eq 28, 3) := by decide +kernel
theorem d15_33 : decode jdk_42_method_149_code 33 = .ok (.aload_n 1, 1) := by decide +kernel
theorem d15_34 : decode jdk_42_method_149_code 34 = .ok (.iload_n 2, 1) := by decide +kernel
theorem d15_35 : decode jdk_42_method_149_code 35 = .ok (.iload_n 3, 1) := by decide +kernel
theorem d15_36 : decode jdk_42_method_149_code 36 = .ok (.invokestatic 177, 3) := by decide +kernel
theorem d15_39 : decode jdk_42_method_149_code 39 = .ok (.astore 5, 2) := by decide +kernel
theorem d15_41 : decode jdk_42_method_149_code 41 = .ok (.aload_n 0, 1) := by decide +kernel
theorem d15_42 : decode jdk_42_method_149_code 42 = .ok (.aload 5, 2) := by decide +kernel
theorem d15_44 : decode jdk_42_method_149_code 44 = .ok (.iload_n 3, 1) := by decide +kernel
theorem d15_45 : decode jdk_42_method_149_code 45 = .ok (.invokestatic 47, 3) := by decide +kernel
theorem d15_48 : decode jdk_42_method_149_code 48 = .ok (.putfield 15, 3) := by decide +kernel
theorem d15_51 : decode jdk_42_method_149_code 51 = .ok (.aload_n 0, 1) := by decide +kernel
theorem d15_52 : decode jdk_42_method_149_code 52 = .ok (.aload 5, 2) := by decide +kernel
theorem d15_54 : decode jdk_42_method_149_code 54 = .ok (.putfield 9, 3) := by decide +kernel
theorem d15_57 : decode jdk_42_method_149_code 57 = .ok (.return_, 1) := by decide +kernel
theorem pd15 : parseMethodDescriptor "([CIILjava/lang/Void;)V" = some ⟨[(.array .char), .int, .int, (.object "java/lang/Void")], none⟩ := by decide +kernel
theorem pn15 : plainFor y15 = true := by first | exact plainFor_of_name (by first | (simp [plainName, overriddenIn]; done) | decide +kernel) | decide +kernel | rfl
set_option maxRecDepth 65536 in
set_option maxHeartbeats 40000000 in
theorem con_strN4 (l : Launch) (Z : State) (a0 : Array Value) (hw : ∀ d ∈ tables_1, d.before a0 Z = true) (h0 : Heap) (n0 : Nat) (Z0 : n0 ≤ h0.size) (σ : Sg) (s : Addr) (a : Addr) (ka : ClassId) (cs : List Int32) (A : Arv Z h0 a ka .char (Int32.ofNat cs.length) (cs.map Value.int) (.int 0)) (hp : Lat cs) (hne : cs ≠ []) (cz : Int32) (hcz : ¬ cz = 0) (O2 : Sta Z Z.heap "java/lang/String" "COMPACT_STRINGS" "Z" (.int cz)) (g0 : n0 ≤ s) (E : Exa Z h0 s "java/lang/String") (Fv : Fld Z h0 s "java/lang/String" "value" "[B" .null) (Fc : Fld Z h0 s "java/lang/String" "coder" "B" (.int 0)) :
    Con l Z y15 jdk_42_method_149_code 6 none ({ frames := 2, cells := 1, slots := 64, locals := 48 } : Room) [] #[(.ref s), (.ref a), (.int (0 : Int32)), (.int (Int32.ofNat cs.length)), (.null)] σ h0 n0 (fun v h τ => σ = τ ∧ v = none ∧ Keep h0 h [s] ∧ Str Z h s cs) := by
  refine Con.of_go pn15 (ls := #[.val (.ref s), .val (.ref a), .val (.int (0 : Int32)), .val (.int (Int32.ofNat cs.length)), .val (.null), .unset]) (fun m => by first | (simp [entryFrame, mkF, argsToLocals, Value.category]; done) | rfl) ?_
  intro κ D
  have hl := hp.2
  have qs := own_ltn E.lt
  have hpos : 0 < cs.length := List.length_pos_iff.mpr hne
  refine Go.aloadN D (pc' := 1) d15_0 rfl rfl rfl ?_
  refine Go.initO D (pc' := 4) (hw _ (List.mem_of_getElem? (i := 77) rfl)) (hw _ (List.mem_of_getElem? (i := 78) rfl)) (hw _ (List.mem_of_getElem? (i := 79) rfl)) d15_1 rfl rfl (by decide) (W := 0) rfl (by decide) ?_
  refine Go.iloadN D (pc' := 5) d15_4 rfl rfl ?_
  refine Go.ifc D (pc' := 27) (pc2 := 8) d15_5 (by decide) (by decide) rfl ?_ ?_
  · intro (hc5 : ¬ (Int32.ofNat cs.length) = 0)
    refine Go.getS D (pc' := 30) (hw _ (List.mem_of_getElem? (i := 33) rfl)) d15_27 rfl O2 ?_
    refine Go.ifc D (pc' := 58) (pc2 := 33) d15_30 (by decide) (by decide) rfl ?_ ?_
    · intro (hc30 : cz = 0)
      exact absurd hc30 hcz
    · intro (hc30 : ¬ cz = 0)
      refine Go.aloadN D (pc' := 34) d15_33 rfl rfl rfl ?_
      refine Go.iloadN D (pc' := 35) d15_34 rfl rfl ?_
      refine Go.iloadN D (pc' := 36) d15_35 rfl rfl ?_
      refine Go.callS D (argsL := [(.ref a), (.int (0 : Int32)), (.int (Int32.ofNat cs.length))]) (rest := []) (pc' := 39) (ce' := 1) (sl' := 64) (con_cmp1 l Z a0 hw h0 n0 Z0 σ a ka cs A hp) (hw _ (List.mem_of_getElem? (i := 80) rfl)) (hw _ (List.mem_of_getElem? (i := 81) rfl)) (hw _ (List.mem_of_getElem? (i := 82) rfl)) (hw _ (List.mem_of_getElem? (i := 83) rfl)) (by decide) d15_36 rfl pd17 rfl rfl rfl (by decide) (W := 0) rfl (by decide) (by decide) (by decide) (by decide) (by decide) ?_
      intro v36 h1 σ36 q36
      obtain ⟨rfl, b, kb, rfl, gb, E1, B1⟩ := q36
      show Go κ σ h1 1 64 39 #[.val (.ref s), .val (.ref a), .val (.int (0 : Int32)), .val (.int (Int32.ofNat cs.length)), .val (.null), .unset] [(.ref b)]
      refine Go.astore D (pc' := 41) d15_39 rfl rfl (ls' := #[.val (.ref s), .val (.ref a), .val (.int (0 : Int32)), .val (.int (Int32.ofNat cs.length)), .val (.null), .val (.ref b)]) rfl ?_
      refine Go.aloadN D (pc' := 42) d15_41 rfl rfl rfl ?_
      refine Go.aload D (pc' := 44) d15_42 rfl rfl rfl ?_
      refine Go.iloadN D (pc' := 45) d15_44 rfl rfl ?_
      refine Go.callS D (argsL := [(.ref b), (.int (Int32.ofNat cs.length))]) (rest := [(.ref s)]) (pc' := 48) (ce' := 1) (sl' := 64) (con_coder l Z a0 hw h1 n0 σ b kb _ _ B1) (hw _ (List.mem_of_getElem? (i := 87) rfl)) (hw _ (List.mem_of_getElem? (i := 88) rfl)) (hw _ (List.mem_of_getElem? (i := 82) rfl)) (hw _ (List.mem_of_getElem? (i := 89) rfl)) (by decide) d15_45 rfl pd19 rfl rfl rfl (by decide) (W := 1) rfl (by decide) (by decide) (by decide) (by decide) (by decide) ?_
      intro v45 h2 σ45 q45
      obtain ⟨rfl, rfl, rfl⟩ := q45
      show Go κ σ h1 1 64 48 #[.val (.ref s), .val (.ref a), .val (.int (0 : Int32)), .val (.int (Int32.ofNat cs.length)), .val (.null), .val (.ref b)] [(.int (0 : Int32)), (.ref s)]
      refine Go.putF D (pc' := 51) (hw _ (List.mem_of_getElem? (i := 34) rfl)) d15_48 rfl (Fc.ext E1) (E.ext E1) (Or.inr ⟨(hw _ (List.mem_of_getElem? (i := 5) rfl)), rfl, rfl⟩) (hw _ (List.mem_of_getElem? (i := 2) rfl)) (ty := .byte) (by decide) rfl rfl g0 ?_
      intro h3 W3
      refine Go.aloadN D (pc' := 52) d15_51 rfl rfl rfl ?_
      refine Go.aload D (pc' := 54) d15_52 rfl rfl rfl ?_
      refine Go.putF D (pc' := 57) (hw _ (List.mem_of_getElem? (i := 22) rfl)) d15_54 rfl ((Fv.ext E1).other W3 (Or.inr (slot_ne (Or.inr (hw _ (List.mem_of_getElem? (i := 4) rfl))) (Or.inr (hw _ (List.mem_of_getElem? (i := 5) rfl))) (by decide) (t := .array .byte) (t' := .byte) (by decide) (by decide)))) ((E.ext E1).wr W3) (Or.inr ⟨(hw _ (List.mem_of_getElem? (i := 4) rfl)), rfl, rfl⟩) (hw _ (List.mem_of_getElem? (i := 2) rfl)) (ty := (.array .byte)) (by decide) rfl rfl g0 ?_
      intro h4 W4
      refine Go.vret D rfl d15_57 (by decide) (by decide) ?_
      have nb : b ≠ s := own_ne (by omega)
      refine ⟨rfl, rfl, ?_, ⟨((E.ext E1).wr W3).wr W4, ((Fc.ext E1).same W3).other W4 (Or.inr (slot_ne (Or.inr (hw _ (List.mem_of_getElem? (i := 5) rfl))) (Or.inr (hw _ (List.mem_of_getElem? (i := 4) rfl))) (by decide) (t := .byte) (t' := .array .byte) (by decide) (by decide))), b, kb, ((Fv.ext E1).other W3 (Or.inr (slot_ne (Or.inr (hw _ (List.mem_of_getElem? (i := 4) rfl))) (Or.inr (hw _ (List.mem_of_getElem? (i := 5) rfl))) (by decide) (t := .array .byte) (t' := .byte) (by decide) (by decide)))).same W4, (B1.other W3 nb).other W4 nb⟩, hp⟩
      exact (((Keep.refl _ _).ext E1).wr W3 (Or.inl (by simp))).wr W4 (Or.inl (by simp))
  · intro (hc5 : (Int32.ofNat cs.length) = 0)
    exact absurd (own_inj (j := 0) (by omega) (by omega) hc5) (by omega)
abbrev y14 : MethodName := ⟨"java/lang/String", "<init>", "([C)V"⟩
theorem d14_0 : decode jdk_42_method_3_code 0 = .ok (.aload_n 0, 1) := by decide +kernel
theorem d14_1 : decode jdk_42_method_3_code 1 = .ok (.aload_n 1, 1) := by decide +kernel
theorem d14_2 : decode jdk_42_method_3_code 2 = .ok (.iconst 0, 1) := by decide +kernel
theorem d14_3 : decode jdk_42_method_3_code 3 = .ok (.aload_n 1, 1) := by decide +kernel
theorem d14_4 : decode jdk_42_method_3_code 4 = .ok (.arraylength, 1) := by decide +kernel
theorem d14_5 : decode jdk_42_method_3_code 5 = .ok (.aconst_null, 1) := by decide +kernel
theorem d14_6 : decode jdk_42_method_3_code 6 = .ok (.invokespecial 27, 3) := by decide +kernel
theorem d14_9 : decode jdk_42_method_3_code 9 = .ok (.return_, 1) := by decide +kernel
theorem pd14 : parseMethodDescriptor "([C)V" = some ⟨[(.array .char)], none⟩ := by decide +kernel
theorem pn14 : plainFor y14 = true := by first | exact plainFor_of_name (by first | (simp [plainName, overriddenIn]; done) | decide +kernel) | decide +kernel | rfl
set_option maxRecDepth 65536 in
set_option maxHeartbeats 40000000 in
theorem con_strN (l : Launch) (Z : State) (a0 : Array Value) (hw : ∀ d ∈ tables_1, d.before a0 Z = true) (h0 : Heap) (n0 : Nat) (Z0 : n0 ≤ h0.size) (σ : Sg) (s : Addr) (a : Addr) (ka : ClassId) (cs : List Int32) (A : Arv Z h0 a ka .char (Int32.ofNat cs.length) (cs.map Value.int) (.int 0)) (hp : Lat cs) (hne : cs ≠ []) (cz : Int32) (hcz : ¬ cz = 0) (O2 : Sta Z Z.heap "java/lang/String" "COMPACT_STRINGS" "Z" (.int cz)) (g0 : n0 ≤ s) (E : Exa Z h0 s "java/lang/String") (Fv : Fld Z h0 s "java/lang/String" "value" "[B" .null) (Fc : Fld Z h0 s "java/lang/String" "coder" "B" (.int 0)) :
    Con l Z y14 jdk_42_method_3_code 2 none ({ frames := 3, cells := 1, slots := 64, locals := 68 } : Room) [] #[(.ref s), (.ref a)] σ h0 n0 (fun v h τ => σ = τ ∧ v = none ∧ Keep h0 h [s] ∧ Str Z h s cs) := by
  refine Con.of_go pn14 (ls := #[.val (.ref s), .val (.ref a)]) (fun m => by first | (simp [entryFrame, mkF, argsToLocals, Value.category]; done) | rfl) ?_
  intro κ D
  refine Go.aloadN D (pc' := 1) d14_0 rfl rfl rfl ?_
  refine Go.aloadN D (pc' := 2) d14_1 rfl rfl rfl ?_
  refine Go.iconst D (pc' := 3) d14_2 rfl (v := (0 : Int32)) rfl ?_
  refine Go.aloadN D (pc' := 4) d14_3 rfl rfl rfl ?_
  refine Go.alen D (pc' := 5) d14_4 rfl A ?_
  refine Go.aconstNull D (pc' := 6) d14_5 rfl  ?_
  refine Go.callI D (argsL := [(.ref a), (.int (0 : Int32)), (.int (Int32.ofNat cs.length)), (.null)]) (rest := []) (pc' := 9) (ce' := 1) (sl' := 64) (con_strN4 l Z a0 hw h0 n0 Z0 σ s a ka cs A hp hne cz hcz O2 g0 E Fv Fc) rfl (hw _ (List.mem_of_getElem? (i := 73) rfl)) (hw _ (List.mem_of_getElem? (i := 74) rfl)) (hw _ (List.mem_of_getElem? (i := 1) rfl)) (hw _ (List.mem_of_getElem? (i := 76) rfl)) (by decide) d14_6 rfl pd15 rfl rfl rfl (by decide) (W := 0) rfl (by decide) (by decide) (by decide) (by decide) (by decide) ?_
  intro v6 h1 σ6 q6
  obtain ⟨rfl, rfl, q1, q2⟩ := q6
  show Go κ σ h1 1 64 9 #[.val (.ref s), .val (.ref a)] []
  refine Go.vret D rfl d14_9 (by decide) (by decide) ?_
  exact ⟨rfl, rfl, q1, q2⟩
abbrev y2 : MethodName := ⟨"java/util/Objects", "requireNonNull", "(Ljava/lang/Object;Ljava/lang/String;)Ljava/lang/Object;"⟩
theorem d2_0 : decode jdk_31_method_11_code 0 = .ok (.aload_n 0, 1) := by decide +kernel
theorem d2_1 : decode jdk_31_method_11_code 1 = .ok (.ifnonnull 12, 3) := by decide +kernel
theorem d2_13 : decode jdk_31_method_11_code 13 = .ok (.aload_n 0, 1) := by decide +kernel
theorem d2_14 : decode jdk_31_method_11_code 14 = .ok (.areturn, 1) := by decide +kernel
theorem pd2 : parseMethodDescriptor "(Ljava/lang/Object;Ljava/lang/String;)Ljava/lang/Object;" = some ⟨[(.object "java/lang/Object"), (.object "java/lang/String")], (some (.object "java/lang/Object"))⟩ := by decide +kernel
theorem pn2 : plainFor y2 = true := by first | exact plainFor_of_name (by first | (simp [plainName, overriddenIn]; done) | decide +kernel) | decide +kernel | rfl
set_option maxRecDepth 65536 in
set_option maxHeartbeats 40000000 in
theorem con_rnn (l : Launch) (Z : State) (a0 : Array Value) (hw : ∀ d ∈ tables_1, d.before a0 Z = true) (h0 : Heap) (n0 : Nat) (σ : Sg) (s u : Addr) :
    Con l Z y2 jdk_31_method_11_code 2 ((some (.object "java/lang/Object"))) ({ frames := 0, cells := 0, slots := 0, locals := 0 } : Room) [] #[(.ref s), (.ref u)] σ h0 n0 (fun v h τ => h0 = h ∧ σ = τ ∧ v = some (.ref s)) := by
  refine Con.of_go pn2 (ls := #[.val (.ref s), .val (.ref u)]) (fun m => by first | (simp [entryFrame, mkF, argsToLocals, Value.category]; done) | rfl) ?_
  intro κ D
  refine Go.aloadN D (pc' := 1) d2_0 rfl rfl rfl ?_
  refine Go.ifnonnullY D (pc' := 13) d2_1 (by decide) (by decide) ?_
  refine Go.aloadN D (pc' := 14) d2_13 rfl rfl rfl ?_
  refine Go.aret D rfl rfl rfl d2_14 (by decide) (by decide) ?_
  exact ⟨rfl, rfl, rfl⟩
theorem own_shr0 (x : Int32) : x >>> ((0 : Int32) &&& 31) = x := by
  apply Int32.toInt_inj.mp
  rw [c_ishr x 0 0 (by decide)]
  simp
theorem byte_back {c : Int32} (h : ¬ c < 0 ∧ c < 256) : (c.toInt8.toInt32 &&& 255) = c := by
  have a := c_i2b c
  have b := c_mask (c.toInt8.toInt32) 255 8 (by decide) (by decide)
  simp only [Int32.lt_iff_toInt_lt, show (0 : Int32).toInt = 0 from rfl, show (256 : Int32).toInt = 256 from rfl] at h
  apply Int32.toInt_inj.mp
  rw [b, show ((2 ^ 8 : Nat) : Int) = 256 from rfl]
  omega
theorem char_nar {c : Int32} (h : ¬ c < 0 ∧ c < 256) : c.toUInt32.toUInt16.toUInt32.toInt32 = c := by
  have e := i2c_mask c.toInt8.toInt32
  rw [byte_back h] at e
  exact e

abbrev y5 : MethodName := ⟨"java/lang/String", "coder", "()B"⟩
theorem d5_0 : decode jdk_42_method_152_code 0 = .ok (.getstatic 38, 3) := by decide +kernel
theorem d5_3 : decode jdk_42_method_152_code 3 = .ok (.ifCond .eq 10, 3) := by decide +kernel
theorem d5_6 : decode jdk_42_method_152_code 6 = .ok (.aload_n 0, 1) := by decide +kernel
theorem d5_7 : decode jdk_42_method_152_code 7 = .ok (.getfield 15, 3) := by decide +kernel
theorem d5_10 : decode jdk_42_method_152_code 10 = .ok (.goto 4, 3) := by decide +kernel
theorem d5_13 : decode jdk_42_method_152_code 13 = .ok (.iconst 1, 1) := by decide +kernel
theorem d5_14 : decode jdk_42_method_152_code 14 = .ok (.ireturn, 1) := by decide +kernel
theorem pd5 : parseMethodDescriptor "()B" = some ⟨[], (some .byte)⟩ := by decide +kernel
theorem pn5 : plainFor y5 = true := by first | exact plainFor_of_name (by first | (simp [plainName, overriddenIn]; done) | decide +kernel) | decide +kernel | rfl
set_option maxRecDepth 65536 in
set_option maxHeartbeats 40000000 in
theorem con_scoder (l : Launch) (Z : State) (a0 : Array Value) (hw : ∀ d ∈ tables_1, d.before a0 Z = true) (h0 : Heap) (n0 : Nat) (σ : Sg) (s : Addr) (F : Fld Z h0 s "java/lang/String" "coder" "B" (.int 0)) (cz : Int32) (hcz : ¬ cz = 0) (O2 : Sta Z Z.heap "java/lang/String" "COMPACT_STRINGS" "Z" (.int cz)) :
    Con l Z y5 jdk_42_method_152_code 1 ((some .byte)) ({ frames := 0, cells := 0, slots := 0, locals := 0 } : Room) [] #[(.ref s)] σ h0 n0 (fun v h τ => h0 = h ∧ σ = τ ∧ v = some (.int 0)) := by
  refine Con.of_go pn5 (ls := #[.val (.ref s)]) (fun m => by first | (simp [entryFrame, mkF, argsToLocals, Value.category]; done) | rfl) ?_
  intro κ D
  refine Go.getS D (pc' := 3) (hw _ (List.mem_of_getElem? (i := 33) rfl)) d5_0 rfl O2 ?_
  refine Go.ifc D (pc' := 13) (pc2 := 6) d5_3 (by decide) (by decide) rfl ?_ ?_
  · intro (hc3 : cz = 0)
    exact absurd hc3 hcz
  · intro (hc3 : ¬ cz = 0)
    refine Go.aloadN D (pc' := 7) d5_6 rfl rfl rfl ?_
    refine Go.getF D (pc' := 10) (hw _ (List.mem_of_getElem? (i := 34) rfl)) d5_7 rfl F ?_
    refine Go.goto D (pc' := 14) d5_10 (by decide) (by decide) ?_
    refine Go.bret D rfl rfl d5_14 (by decide) (by decide) ?_
    exact ⟨rfl, rfl, rfl⟩
abbrev y4 : MethodName := ⟨"java/lang/String", "length", "()I"⟩
theorem d4_0 : decode jdk_42_method_54_code 0 = .ok (.aload_n 0, 1) := by decide +kernel
theorem d4_1 : decode jdk_42_method_54_code 1 = .ok (.getfield 9, 3) := by decide +kernel
theorem d4_4 : decode jdk_42_method_54_code 4 = .ok (.arraylength, 1) := by decide +kernel
theorem d4_5 : decode jdk_42_method_54_code 5 = .ok (.aload_n 0, 1) := by decide +kernel
theorem d4_6 : decode jdk_42_method_54_code 6 = .ok (.invokevirtual 335, 3) := by decide +kernel
theorem d4_9 : decode jdk_42_method_54_code 9 = .ok (.ishr, 1) := by decide +kernel
theorem d4_10 : decode jdk_42_method_54_code 10 = .ok (.ireturn, 1) := by decide +kernel
theorem pd4 : parseMethodDescriptor "()I" = some ⟨[], (some .int)⟩ := by decide +kernel
theorem pn4 : plainFor y4 = true := by first | exact plainFor_of_name (by first | (simp [plainName, overriddenIn]; done) | decide +kernel) | decide +kernel | rfl
set_option maxRecDepth 65536 in
set_option maxHeartbeats 40000000 in
theorem con_slen (l : Launch) (Z : State) (a0 : Array Value) (hw : ∀ d ∈ tables_1, d.before a0 Z = true) (h0 : Heap) (n0 : Nat) (σ : Sg) (s : Addr) (cs : List Int32) (S : Str Z h0 s cs) (cz : Int32) (hcz : ¬ cz = 0) (O2 : Sta Z Z.heap "java/lang/String" "COMPACT_STRINGS" "Z" (.int cz)) :
    Con l Z y4 jdk_42_method_54_code 1 ((some .int)) ({ frames := 1, cells := 0, slots := 0, locals := 13 } : Room) [] #[(.ref s)] σ h0 n0 (fun v h τ => h0 = h ∧ σ = τ ∧ v = some (.int (Int32.ofNat cs.length))) := by
  refine Con.of_go pn4 (ls := #[.val (.ref s)]) (fun m => by first | (simp [entryFrame, mkF, argsToLocals, Value.category]; done) | rfl) ?_
  intro κ D
  obtain ⟨e1, e2, b, kb, e3, e4⟩ := id S.1
  refine Go.aloadN D (pc' := 1) d4_0 rfl rfl rfl ?_
  refine Go.getF D (pc' := 4) (hw _ (List.mem_of_getElem? (i := 22) rfl)) d4_1 rfl e3 ?_
  refine Go.alen D (pc' := 5) d4_4 rfl e4 ?_
  refine Go.aloadN D (pc' := 6) d4_5 rfl rfl rfl ?_
  refine Go.callV D (argsL := []) (rest := [(.int (Int32.ofNat cs.length))]) (pc' := 9) (ce' := 0) (sl' := 0) (con_scoder l Z a0 hw h0 n0 σ s e2 cz hcz O2) (hw _ (List.mem_of_getElem? (i := 28) rfl)) (hw _ (List.mem_of_getElem? (i := 29) rfl)) (hw _ (List.mem_of_getElem? (i := 31) rfl)) (hw _ (List.mem_of_getElem? (i := 30) rfl)) (hw _ (List.mem_of_getElem? (i := 1) rfl)) (hw _ (List.mem_of_getElem? (i := 32) rfl)) (nfS (hw _ (List.mem_of_getElem? (i := 31) rfl))) (by decide) e1 d4_6 rfl pd5 rfl rfl rfl (by decide) (W := 1) rfl (by decide) (by decide) (by decide) (by decide) (by decide) ?_
  intro v6 h6 σ6 q6
  obtain ⟨rfl, rfl, rfl⟩ := q6
  show Go κ σ h0 0 0 9 #[.val (.ref s)] [(.int (0 : Int32)), (.int (Int32.ofNat cs.length))]
  refine Go.ishr D (pc' := 10) d4_9 rfl  ?_
  rw [own_shr0]
  refine Go.iret D rfl d4_10 (by decide) (by decide) ?_
  exact ⟨rfl, rfl, rfl⟩
abbrev y3 : MethodName := ⟨"java/lang/String", "isEmpty", "()Z"⟩
theorem d3_0 : decode jdk_42_method_55_code 0 = .ok (.aload_n 0, 1) := by decide +kernel
theorem d3_1 : decode jdk_42_method_55_code 1 = .ok (.getfield 9, 3) := by decide +kernel
theorem d3_4 : decode jdk_42_method_55_code 4 = .ok (.arraylength, 1) := by decide +kernel
theorem d3_5 : decode jdk_42_method_55_code 5 = .ok (.ifCond .ne 7, 3) := by decide +kernel
theorem d3_8 : decode jdk_42_method_55_code 8 = .ok (.iconst 1, 1) := by decide +kernel
theorem d3_9 : decode jdk_42_method_55_code 9 = .ok (.goto 4, 3) := by decide +kernel
theorem d3_12 : decode jdk_42_method_55_code 12 = .ok (.iconst 0, 1) := by decide +kernel
theorem d3_13 : decode jdk_42_method_55_code 13 = .ok (.ireturn, 1) := by decide +kernel
theorem pd3 : parseMethodDescriptor "()Z" = some ⟨[], (some .boolean)⟩ := by decide +kernel
theorem pn3 : plainFor y3 = true := by first | exact plainFor_of_name (by first | (simp [plainName, overriddenIn]; done) | decide +kernel) | decide +kernel | rfl
set_option maxRecDepth 65536 in
set_option maxHeartbeats 40000000 in
theorem con_sempty (l : Launch) (Z : State) (a0 : Array Value) (hw : ∀ d ∈ tables_1, d.before a0 Z = true) (h0 : Heap) (n0 : Nat) (σ : Sg) (s : Addr) (cs : List Int32) (S : Str Z h0 s cs) :
    Con l Z y3 jdk_42_method_55_code 1 ((some .boolean)) ({ frames := 0, cells := 0, slots := 0, locals := 0 } : Room) [] #[(.ref s)] σ h0 n0 (fun v h τ => h0 = h ∧ σ = τ ∧ ∃ r, v = some (.int r) ∧ ((r = 1 ∧ cs = []) ∨ (r = 0 ∧ ¬ cs = []))) := by
  refine Con.of_go pn3 (ls := #[.val (.ref s)]) (fun m => by first | (simp [entryFrame, mkF, argsToLocals, Value.category]; done) | rfl) ?_
  intro κ D
  obtain ⟨e1, e2, b, kb, e3, e4⟩ := id S.1
  have hl := S.2.2
  refine Go.aloadN D (pc' := 1) d3_0 rfl rfl rfl ?_
  refine Go.getF D (pc' := 4) (hw _ (List.mem_of_getElem? (i := 22) rfl)) d3_1 rfl e3 ?_
  refine Go.alen D (pc' := 5) d3_4 rfl e4 ?_
  refine Go.ifc D (pc' := 12) (pc2 := 8) d3_5 (by decide) (by decide) rfl ?_ ?_
  · intro (hc5 : ¬ (Int32.ofNat cs.length) = 0)
    refine Go.iconst D (pc' := 13) d3_12 rfl (v := (0 : Int32)) rfl ?_
    refine Go.zret D rfl rfl d3_13 (by decide) (by decide) ?_
    exact ⟨rfl, rfl, _, rfl, Or.inr ⟨rfl, fun z => hc5 (by rw [z]; rfl)⟩⟩
  · intro (hc5 : (Int32.ofNat cs.length) = 0)
    refine Go.iconst D (pc' := 9) d3_8 rfl (v := (1 : Int32)) rfl ?_
    refine Go.goto D (pc' := 13) d3_9 (by decide) (by decide) ?_
    refine Go.zret D rfl rfl d3_13 (by decide) (by decide) ?_
    exact ⟨rfl, rfl, _, rfl, Or.inl ⟨rfl, List.eq_nil_of_length_eq_zero (own_inj (j := 0) (by omega) (by omega) hc5)⟩⟩

abbrev y8 : MethodName := ⟨"java/lang/String", "isLatin1", "()Z"⟩
theorem d8_0 : decode jdk_42_method_154_code 0 = .ok (.getstatic 38, 3) := by decide +kernel
theorem d8_3 : decode jdk_42_method_154_code 3 = .ok (.ifCond .eq 14, 3) := by decide +kernel
theorem d8_6 : decode jdk_42_method_154_code 6 = .ok (.aload_n 0, 1) := by decide +kernel
theorem d8_7 : decode jdk_42_method_154_code 7 = .ok (.getfield 15, 3) := by decide +kernel
theorem d8_10 : decode jdk_42_method_154_code 10 = .ok (.ifCond .ne 7, 3) := by decide +kernel
theorem d8_13 : decode jdk_42_method_154_code 13 = .ok (.iconst 1, 1) := by decide +kernel
theorem d8_14 : decode jdk_42_method_154_code 14 = .ok (.goto 4, 3) := by decide +kernel
theorem d8_17 : decode jdk_42_method_154_code 17 = .ok (.iconst 0, 1) := by decide +kernel
theorem d8_18 : decode jdk_42_method_154_code 18 = .ok (.ireturn, 1) := by decide +kernel
theorem pd8 : parseMethodDescriptor "()Z" = some ⟨[], (some .boolean)⟩ := by decide +kernel
theorem pn8 : plainFor y8 = true := by first | exact plainFor_of_name (by first | (simp [plainName, overriddenIn]; done) | decide +kernel) | decide +kernel | rfl
set_option maxRecDepth 65536 in
set_option maxHeartbeats 40000000 in
theorem con_sisl (l : Launch) (Z : State) (a0 : Array Value) (hw : ∀ d ∈ tables_1, d.before a0 Z = true) (h0 : Heap) (n0 : Nat) (σ : Sg) (s : Addr) (F : Fld Z h0 s "java/lang/String" "coder" "B" (.int 0)) (cz : Int32) (hcz : ¬ cz = 0) (O2 : Sta Z Z.heap "java/lang/String" "COMPACT_STRINGS" "Z" (.int cz)) :
    Con l Z y8 jdk_42_method_154_code 1 ((some .boolean)) ({ frames := 0, cells := 0, slots := 0, locals := 0 } : Room) [] #[(.ref s)] σ h0 n0 (fun v h τ => h0 = h ∧ σ = τ ∧ v = some (.int 1)) := by
  refine Con.of_go pn8 (ls := #[.val (.ref s)]) (fun m => by first | (simp [entryFrame, mkF, argsToLocals, Value.category]; done) | rfl) ?_
  intro κ D
  refine Go.getS D (pc' := 3) (hw _ (List.mem_of_getElem? (i := 33) rfl)) d8_0 rfl O2 ?_
  refine Go.ifc D (pc' := 17) (pc2 := 6) d8_3 (by decide) (by decide) rfl ?_ ?_
  · intro (hc3 : cz = 0)
    exact absurd hc3 hcz
  · intro (hc3 : ¬ cz = 0)
    refine Go.aloadN D (pc' := 7) d8_6 rfl rfl rfl ?_
    refine Go.getF D (pc' := 10) (hw _ (List.mem_of_getElem? (i := 34) rfl)) d8_7 rfl F ?_
    refine Go.ifc D (pc' := 17) (pc2 := 13) d8_10 (by decide) (by decide) rfl (fun (hc : ¬ (0 : Int32) = 0) => absurd hc (by decide)) (fun _ => ?_)
    refine Go.iconst D (pc' := 14) d8_13 rfl (v := (1 : Int32)) rfl ?_
    refine Go.goto D (pc' := 18) d8_14 (by decide) (by decide) ?_
    refine Go.zret D rfl rfl d8_18 (by decide) (by decide) ?_
    exact ⟨rfl, rfl, rfl⟩
abbrev y11 : MethodName := ⟨"jdk/internal/util/Preconditions", "checkIndex", "(IILjava/util/function/BiFunction;)I"⟩
theorem d11_0 : decode jdk_41_method_11_code 0 = .ok (.iload_n 0, 1) := by decide +kernel
theorem d11_1 : decode jdk_41_method_11_code 1 = .ok (.ifCond .lt 8, 3) := by decide +kernel
theorem d11_4 : decode jdk_41_method_11_code 4 = .ok (.iload_n 0, 1) := by decide +kernel
theorem d11_5 : decode jdk_41_method_11_code 5 = .ok (.iload_n 1, 1) := by decide +kernel
theorem d11_6 : decode jdk_41_method_11_code 6 = .ok (.if_icmp .lt 10, 3) := by decide +kernel
theorem d11_16 : decode jdk_41_method_11_code 16 = .ok (.iload_n 0, 1) := by decide +kernel
theorem d11_17 : decode jdk_41_method_11_code 17 = .ok (.ireturn, 1) := by decide +kernel
theorem pd11 : parseMethodDescriptor "(IILjava/util/function/BiFunction;)I" = some ⟨[.int, .int, (.object "java/util/function/BiFunction")], (some .int)⟩ := by decide +kernel
theorem pn11 : plainFor y11 = true := by first | exact plainFor_of_name (by first | (simp [plainName, overriddenIn]; done) | decide +kernel) | decide +kernel | rfl
set_option maxRecDepth 65536 in
set_option maxHeartbeats 40000000 in
theorem con_chkN (l : Launch) (Z : State) (a0 : Array Value) (hw : ∀ d ∈ tables_1, d.before a0 Z = true) (h0 : Heap) (n0 : Nat) (σ : Sg) (i n : Int32) (h1 : ¬ i < 0) (h2 : i < n) :
    Con l Z y11 jdk_41_method_11_code 3 ((some .int)) ({ frames := 0, cells := 0, slots := 0, locals := 0 } : Room) [] #[(.int i), (.int n), (.null)] σ h0 n0 (fun v h τ => h0 = h ∧ σ = τ ∧ v = some (.int i)) := by
  refine Con.of_go pn11 (ls := #[.val (.int i), .val (.int n), .val (.null)]) (fun m => by first | (simp [entryFrame, mkF, argsToLocals, Value.category]; done) | rfl) ?_
  intro κ D
  refine Go.iloadN D (pc' := 1) d11_0 rfl rfl ?_
  refine Go.ifc D (pc' := 9) (pc2 := 4) d11_1 (by decide) (by decide) rfl ?_ ?_
  · intro (hc1 : i < 0)
    exact absurd hc1 h1
  · intro (hc1 : ¬ i < 0)
    refine Go.iloadN D (pc' := 5) d11_4 rfl rfl ?_
    refine Go.iloadN D (pc' := 6) d11_5 rfl rfl ?_
    refine Go.icmp D (pc' := 16) (pc2 := 9) d11_6 (by decide) (by decide) rfl ?_ ?_
    · intro (hc6 : i < n)
      refine Go.iloadN D (pc' := 17) d11_16 rfl rfl ?_
      refine Go.iret D rfl d11_17 (by decide) (by decide) ?_
      exact ⟨rfl, rfl, rfl⟩
    · intro (hc6 : ¬ i < n)
      exact absurd h2 hc6
set_option maxRecDepth 65536 in
set_option maxHeartbeats 40000000 in
theorem con_chkR (l : Launch) (Z : State) (a0 : Array Value) (hw : ∀ d ∈ tables_1, d.before a0 Z = true) (h0 : Heap) (n0 : Nat) (σ : Sg) (i n : Int32) (h1 : ¬ i < 0) (h2 : i < n) (fa : Addr) :
    Con l Z y11 jdk_41_method_11_code 3 ((some .int)) ({ frames := 0, cells := 0, slots := 0, locals := 0 } : Room) [] #[(.int i), (.int n), (.ref fa)] σ h0 n0 (fun v h τ => h0 = h ∧ σ = τ ∧ v = some (.int i)) := by
  refine Con.of_go pn11 (ls := #[.val (.int i), .val (.int n), .val (.ref fa)]) (fun m => by first | (simp [entryFrame, mkF, argsToLocals, Value.category]; done) | rfl) ?_
  intro κ D
  refine Go.iloadN D (pc' := 1) d11_0 rfl rfl ?_
  refine Go.ifc D (pc' := 9) (pc2 := 4) d11_1 (by decide) (by decide) rfl ?_ ?_
  · intro (hc1 : i < 0)
    exact absurd hc1 h1
  · intro (hc1 : ¬ i < 0)
    refine Go.iloadN D (pc' := 5) d11_4 rfl rfl ?_
    refine Go.iloadN D (pc' := 6) d11_5 rfl rfl ?_
    refine Go.icmp D (pc' := 16) (pc2 := 9) d11_6 (by decide) (by decide) rfl ?_ ?_
    · intro (hc6 : i < n)
      refine Go.iloadN D (pc' := 17) d11_16 rfl rfl ?_
      refine Go.iret D rfl d11_17 (by decide) (by decide) ?_
      exact ⟨rfl, rfl, rfl⟩
    · intro (hc6 : ¬ i < n)
      exact absurd h2 hc6
abbrev y10 : MethodName := ⟨"java/lang/String", "checkIndex", "(II)V"⟩
theorem d10_0 : decode jdk_42_method_155_code 0 = .ok (.iload_n 0, 1) := by decide +kernel
theorem d10_1 : decode jdk_42_method_155_code 1 = .ok (.iload_n 1, 1) := by decide +kernel
theorem d10_2 : decode jdk_42_method_155_code 2 = .ok (.getstatic 1053, 3) := by decide +kernel
theorem d10_5 : decode jdk_42_method_155_code 5 = .ok (.invokestatic 1059, 3) := by decide +kernel
theorem d10_8 : decode jdk_42_method_155_code 8 = .ok (.pop, 1) := by decide +kernel
theorem d10_9 : decode jdk_42_method_155_code 9 = .ok (.return_, 1) := by decide +kernel
theorem pd10 : parseMethodDescriptor "(II)V" = some ⟨[.int, .int], none⟩ := by decide +kernel
theorem pn10 : plainFor y10 = true := by first | exact plainFor_of_name (by first | (simp [plainName, overriddenIn]; done) | decide +kernel) | decide +kernel | rfl
set_option maxRecDepth 65536 in
set_option maxHeartbeats 40000000 in
theorem con_sci (l : Launch) (Z : State) (a0 : Array Value) (hw : ∀ d ∈ tables_1, d.before a0 Z = true) (h0 : Heap) (n0 : Nat) (σ : Sg) (i n : Int32) (h1 : ¬ i < 0) (h2 : i < n) (fm : Value) (rf : fm.isRef = true) (O4 : Sta Z Z.heap "jdk/internal/util/Preconditions" "SIOOBE_FORMATTER" "Ljava/util/function/BiFunction;" fm) :
    Con l Z y10 jdk_42_method_155_code 2 none ({ frames := 1, cells := 0, slots := 0, locals := 14 } : Room) [] #[(.int i), (.int n)] σ h0 n0 (fun v h τ => h0 = h ∧ σ = τ ∧ v = none) := by
  refine Con.of_go pn10 (ls := #[.val (.int i), .val (.int n)]) (fun m => by first | (simp [entryFrame, mkF, argsToLocals, Value.category]; done) | rfl) ?_
  intro κ D
  rcases ref_cases rf with rfl | ⟨fa, rfl⟩
  · skip
    refine Go.iloadN D (pc' := 1) d10_0 rfl rfl ?_
    refine Go.iloadN D (pc' := 2) d10_1 rfl rfl ?_
    refine Go.getS D (pc' := 5) (hw _ (List.mem_of_getElem? (i := 55) rfl)) d10_2 rfl O4 ?_
    refine Go.callS D (argsL := [(.int i), (.int n), (.null)]) (rest := []) (pc' := 8) (ce' := 0) (sl' := 0) (con_chkN l Z a0 hw h0 n0 σ i n h1 h2) (hw _ (List.mem_of_getElem? (i := 57) rfl)) (hw _ (List.mem_of_getElem? (i := 58) rfl)) (hw _ (List.mem_of_getElem? (i := 56) rfl)) (hw _ (List.mem_of_getElem? (i := 59) rfl)) (by decide) d10_5 rfl pd11 rfl rfl rfl (by decide) (W := 0) rfl (by decide) (by decide) (by decide) (by decide) (by decide) ?_
    intro v5 h5 σ5 q5
    obtain ⟨rfl, rfl, rfl⟩ := q5
    show Go κ σ h0 0 0 8 #[.val (.int i), .val (.int n)] [(.int i)]
    refine Go.pop D (pc' := 9) d10_8 rfl rfl ?_
    refine Go.vret D rfl d10_9 (by decide) (by decide) ?_
    exact ⟨rfl, rfl, rfl⟩
  · skip
    refine Go.iloadN D (pc' := 1) d10_0 rfl rfl ?_
    refine Go.iloadN D (pc' := 2) d10_1 rfl rfl ?_
    refine Go.getS D (pc' := 5) (hw _ (List.mem_of_getElem? (i := 55) rfl)) d10_2 rfl O4 ?_
    refine Go.callS D (argsL := [(.int i), (.int n), (.ref fa)]) (rest := []) (pc' := 8) (ce' := 0) (sl' := 0) (con_chkR l Z a0 hw h0 n0 σ i n h1 h2 fa) (hw _ (List.mem_of_getElem? (i := 57) rfl)) (hw _ (List.mem_of_getElem? (i := 58) rfl)) (hw _ (List.mem_of_getElem? (i := 56) rfl)) (hw _ (List.mem_of_getElem? (i := 59) rfl)) (by decide) d10_5 rfl pd11 rfl rfl rfl (by decide) (W := 0) rfl (by decide) (by decide) (by decide) (by decide) (by decide) ?_
    intro v5 h5 σ5 q5
    obtain ⟨rfl, rfl, rfl⟩ := q5
    show Go κ σ h0 0 0 8 #[.val (.int i), .val (.int n)] [(.int i)]
    refine Go.pop D (pc' := 9) d10_8 rfl rfl ?_
    refine Go.vret D rfl d10_9 (by decide) (by decide) ?_
    exact ⟨rfl, rfl, rfl⟩
abbrev y9 : MethodName := ⟨"java/lang/StringLatin1", "charAt", "([BI)C"⟩
theorem d9_0 : decode jdk_43_method_2_code 0 = .ok (.iload_n 1, 1) := by decide +kernel
theorem d9_1 : decode jdk_43_method_2_code 1 = .ok (.aload_n 0, 1) := by decide +kernel
theorem d9_2 : decode jdk_43_method_2_code 2 = .ok (.arraylength, 1) := by decide +kernel
theorem d9_3 : decode jdk_43_method_2_code 3 = .ok (.invokestatic 9, 3) := by decide +kernel
theorem d9_6 : decode jdk_43_method_2_code 6 = .ok (.aload_n 0, 1) := by decide +kernel
theorem d9_7 : decode jdk_43_method_2_code 7 = .ok (.iload_n 1, 1) := by decide +kernel
theorem d9_8 : decode jdk_43_method_2_code 8 = .ok (.baload, 1) := by decide +kernel
theorem d9_9 : decode jdk_43_method_2_code 9 = .ok (.sipush 255, 3) := by decide +kernel
theorem d9_12 : decode jdk_43_method_2_code 12 = .ok (.iand, 1) := by decide +kernel
theorem d9_13 : decode jdk_43_method_2_code 13 = .ok (.i2c, 1) := by decide +kernel
theorem d9_14 : decode jdk_43_method_2_code 14 = .ok (.ireturn, 1) := by decide +kernel
theorem pd9 : parseMethodDescriptor "([BI)C" = some ⟨[(.array .byte), .int], (some .char)⟩ := by decide +kernel
theorem pn9 : plainFor y9 = true := by first | exact plainFor_of_name (by first | (simp [plainName, overriddenIn]; done) | decide +kernel) | decide +kernel | rfl
set_option maxRecDepth 65536 in
set_option maxHeartbeats 40000000 in
theorem con_lch (l : Launch) (Z : State) (a0 : Array Value) (hw : ∀ d ∈ tables_1, d.before a0 Z = true) (h0 : Heap) (n0 : Nat) (σ : Sg) (b : Addr) (kb : ClassId) (cs : List Int32) (B : Arv Z h0 b kb .byte (Int32.ofNat cs.length) (bv cs) (.int 0)) (hp : Lat cs) (i : Nat) (hi : i < cs.length) (fm : Value) (rf : fm.isRef = true) (O4 : Sta Z Z.heap "jdk/internal/util/Preconditions" "SIOOBE_FORMATTER" "Ljava/util/function/BiFunction;" fm) :
    Con l Z y9 jdk_43_method_2_code 2 ((some .char)) ({ frames := 2, cells := 0, slots := 0, locals := 28 } : Room) [] #[(.ref b), (.int (Int32.ofNat i))] σ h0 n0 (fun v h τ => h0 = h ∧ σ = τ ∧ v = some (.int cs[i])) := by
  refine Con.of_go pn9 (ls := #[.val (.ref b), .val (.int (Int32.ofNat i))]) (fun m => by first | (simp [entryFrame, mkF, argsToLocals, Value.category]; done) | rfl) ?_
  intro κ D
  have hl := hp.2
  refine Go.iloadN D (pc' := 1) d9_0 rfl rfl ?_
  refine Go.aloadN D (pc' := 2) d9_1 rfl rfl rfl ?_
  refine Go.alen D (pc' := 3) d9_2 rfl B ?_
  refine Go.callS D (argsL := [(.int (Int32.ofNat i)), (.int (Int32.ofNat cs.length))]) (rest := []) (pc' := 6) (ce' := 0) (sl' := 0) (con_sci l Z a0 hw h0 n0 σ (Int32.ofNat i) (Int32.ofNat cs.length) (own_nn (by omega)) ((own_lt (by omega) (by omega)).mpr hi) fm rf O4) (hw _ (List.mem_of_getElem? (i := 52) rfl)) (hw _ (List.mem_of_getElem? (i := 53) rfl)) (hw _ (List.mem_of_getElem? (i := 1) rfl)) (hw _ (List.mem_of_getElem? (i := 54) rfl)) (by decide) d9_3 rfl pd10 rfl rfl rfl (by decide) (W := 0) rfl (by decide) (by decide) (by decide) (by decide) (by decide) ?_
  intro v3 h3 σ3 q3
  obtain ⟨rfl, rfl, rfl⟩ := q3
  show Go κ σ h0 0 0 6 #[.val (.ref b), .val (.int (Int32.ofNat i))] []
  refine Go.aloadN D (pc' := 7) d9_6 rfl rfl rfl ?_
  refine Go.iloadN D (pc' := 8) d9_7 rfl rfl ?_
  refine Go.baload D (pc' := 9) d9_8 rfl B (own_nn (by omega)) ((own_lt (by omega) (by omega)).mpr hi) (v := .int (cs[i].toInt8.toInt32)) (by rw [own_tn (by omega)]; exact bv_at hi _) ?_
  refine Go.sipush D (pc' := 12) d9_9 rfl (v := (255 : Int32)) rfl ?_
  refine Go.iand D (pc' := 13) d9_12 rfl  ?_
  refine Go.i2c D (pc' := 14) d9_13 rfl  ?_
  rw [i2c_mask, byte_back (hp.1 _ (List.getElem_mem hi))]
  refine Go.cret D rfl (congrArg Value.int (char_nar (hp.1 _ (List.getElem_mem hi)))) d9_14 (by decide) (by decide) ?_
  exact ⟨rfl, rfl, rfl⟩
abbrev y7 : MethodName := ⟨"java/lang/String", "charAt", "(I)C"⟩
theorem d7_0 : decode jdk_42_method_56_code 0 = .ok (.aload_n 0, 1) := by decide +kernel
theorem d7_1 : decode jdk_42_method_56_code 1 = .ok (.invokevirtual 492, 3) := by decide +kernel
theorem d7_4 : decode jdk_42_method_56_code 4 = .ok (.ifCond .eq 12, 3) := by decide +kernel
theorem d7_7 : decode jdk_42_method_56_code 7 = .ok (.aload_n 0, 1) := by decide +kernel
theorem d7_8 : decode jdk_42_method_56_code 8 = .ok (.getfield 9, 3) := by decide +kernel
theorem d7_11 : decode jdk_42_method_56_code 11 = .ok (.iload_n 1, 1) := by decide +kernel
theorem d7_12 : decode jdk_42_method_56_code 12 = .ok (.invokestatic 495, 3) := by decide +kernel
theorem d7_15 : decode jdk_42_method_56_code 15 = .ok (.ireturn, 1) := by decide +kernel
theorem pd7 : parseMethodDescriptor "(I)C" = some ⟨[.int], (some .char)⟩ := by decide +kernel
theorem pn7 : plainFor y7 = true := by first | exact plainFor_of_name (by first | (simp [plainName, overriddenIn]; done) | decide +kernel) | decide +kernel | rfl
set_option maxRecDepth 65536 in
set_option maxHeartbeats 40000000 in
theorem con_chAt (l : Launch) (Z : State) (a0 : Array Value) (hw : ∀ d ∈ tables_1, d.before a0 Z = true) (h0 : Heap) (n0 : Nat) (σ : Sg) (s : Addr) (cs : List Int32) (S : Str Z h0 s cs) (i : Nat) (hi : i < cs.length) (cz : Int32) (hcz : ¬ cz = 0) (O2 : Sta Z Z.heap "java/lang/String" "COMPACT_STRINGS" "Z" (.int cz)) (fm : Value) (rf : fm.isRef = true) (O4 : Sta Z Z.heap "jdk/internal/util/Preconditions" "SIOOBE_FORMATTER" "Ljava/util/function/BiFunction;" fm) :
    Con l Z y7 jdk_42_method_56_code 2 ((some .char)) ({ frames := 3, cells := 0, slots := 0, locals := 42 } : Room) [] #[(.ref s), (.int (Int32.ofNat i))] σ h0 n0 (fun v h τ => h0 = h ∧ σ = τ ∧ v = some (.int cs[i])) := by
  refine Con.of_go pn7 (ls := #[.val (.ref s), .val (.int (Int32.ofNat i))]) (fun m => by first | (simp [entryFrame, mkF, argsToLocals, Value.category]; done) | rfl) ?_
  intro κ D
  obtain ⟨e1, e2, b, kb, e3, e4⟩ := id S.1
  refine Go.aloadN D (pc' := 1) d7_0 rfl rfl rfl ?_
  refine Go.callV D (argsL := []) (rest := []) (pc' := 4) (ce' := 0) (sl' := 0) (con_sisl l Z a0 hw h0 n0 σ s e2 cz hcz O2) (hw _ (List.mem_of_getElem? (i := 43) rfl)) (hw _ (List.mem_of_getElem? (i := 44) rfl)) (hw _ (List.mem_of_getElem? (i := 46) rfl)) (hw _ (List.mem_of_getElem? (i := 45) rfl)) (hw _ (List.mem_of_getElem? (i := 1) rfl)) (hw _ (List.mem_of_getElem? (i := 47) rfl)) (nfS (hw _ (List.mem_of_getElem? (i := 46) rfl))) (by decide) e1 d7_1 rfl pd8 rfl rfl rfl (by decide) (W := 0) rfl (by decide) (by decide) (by decide) (by decide) (by decide) ?_
  intro v1 h1 σ1 q1
  obtain ⟨rfl, rfl, rfl⟩ := q1
  show Go κ σ h0 0 0 4 #[.val (.ref s), .val (.int (Int32.ofNat i))] [(.int (1 : Int32))]
  refine Go.ifc D (pc' := 16) (pc2 := 7) d7_4 (by decide) (by decide) rfl (fun (hc : (1 : Int32) = 0) => absurd hc (by decide)) (fun _ => ?_)
  refine Go.aloadN D (pc' := 8) d7_7 rfl rfl rfl ?_
  refine Go.getF D (pc' := 11) (hw _ (List.mem_of_getElem? (i := 22) rfl)) d7_8 rfl e3 ?_
  refine Go.iloadN D (pc' := 12) d7_11 rfl rfl ?_
  refine Go.callS D (argsL := [(.ref b), (.int (Int32.ofNat i))]) (rest := []) (pc' := 15) (ce' := 0) (sl' := 0) (con_lch l Z a0 hw h0 n0 σ b kb cs e4 S.2 i hi fm rf O4) (hw _ (List.mem_of_getElem? (i := 48) rfl)) (hw _ (List.mem_of_getElem? (i := 49) rfl)) (hw _ (List.mem_of_getElem? (i := 50) rfl)) (hw _ (List.mem_of_getElem? (i := 51) rfl)) (by decide) d7_12 rfl pd9 rfl rfl rfl (by decide) (W := 0) rfl (by decide) (by decide) (by decide) (by decide) (by decide) ?_
  intro v12 h12 σ12 q12
  obtain ⟨rfl, rfl, rfl⟩ := q12
  show Go κ σ h0 0 0 15 #[.val (.ref s), .val (.int (Int32.ofNat i))] [(.int cs[i])]
  refine Go.cret D rfl (congrArg Value.int (char_nar (S.2.1 _ (List.getElem_mem hi)))) d7_15 (by decide) (by decide) ?_
  exact ⟨rfl, rfl, rfl⟩

def TokC (c : Int32) : Prop := (¬ c < 65 ∧ ¬ 90 < c) ∨ (¬ c < 97 ∧ ¬ 122 < c) ∨ (¬ c < 48 ∧ ¬ 57 < c) ∨ c = 95 ∨ c = 46 ∨ c = 45
theorem TokC.lat {c : Int32} (h : TokC c) : ¬ c < 0 ∧ c < 256 := by
  unfold TokC at h
  simp only [Int32.lt_iff_toInt_lt, ← Int32.toInt_inj, show (65 : Int32).toInt = 65 from rfl, show (90 : Int32).toInt = 90 from rfl, show (97 : Int32).toInt = 97 from rfl, show (122 : Int32).toInt = 122 from rfl, show (48 : Int32).toInt = 48 from rfl, show (57 : Int32).toInt = 57 from rfl, show (95 : Int32).toInt = 95 from rfl, show (46 : Int32).toInt = 46 from rfl, show (45 : Int32).toInt = 45 from rfl, show (0 : Int32).toInt = 0 from rfl, show (256 : Int32).toInt = 256 from rfl] at h ⊢
  omega

abbrev y12 : MethodName := ⟨"com/example/ticks_into_totals/ticksintototals/CounterName", "isTokenChar", "(C)Z"⟩
theorem d12_0 : decode prog_3_method_6_code 0 = .ok (.iload_n 0, 1) := by decide +kernel
theorem d12_1 : decode prog_3_method_6_code 1 = .ok (.bipush 65, 2) := by decide +kernel
theorem d12_3 : decode prog_3_method_6_code 3 = .ok (.if_icmp .lt 9, 3) := by decide +kernel
theorem d12_6 : decode prog_3_method_6_code 6 = .ok (.iload_n 0, 1) := by decide +kernel
theorem d12_7 : decode prog_3_method_6_code 7 = .ok (.bipush 90, 2) := by decide +kernel
theorem d12_9 : decode prog_3_method_6_code 9 = .ok (.if_icmp .le 45, 3) := by decide +kernel
theorem d12_12 : decode prog_3_method_6_code 12 = .ok (.iload_n 0, 1) := by decide +kernel
theorem d12_13 : decode prog_3_method_6_code 13 = .ok (.bipush 97, 2) := by decide +kernel
theorem d12_15 : decode prog_3_method_6_code 15 = .ok (.if_icmp .lt 9, 3) := by decide +kernel
theorem d12_18 : decode prog_3_method_6_code 18 = .ok (.iload_n 0, 1) := by decide +kernel
theorem d12_19 : decode prog_3_method_6_code 19 = .ok (.bipush 122, 2) := by decide +kernel
theorem d12_21 : decode prog_3_method_6_code 21 = .ok (.if_icmp .le 33, 3) := by decide +kernel
theorem d12_24 : decode prog_3_method_6_code 24 = .ok (.iload_n 0, 1) := by decide +kernel
theorem d12_25 : decode prog_3_method_6_code 25 = .ok (.bipush 48, 2) := by decide +kernel
theorem d12_27 : decode prog_3_method_6_code 27 = .ok (.if_icmp .lt 9, 3) := by decide +kernel
theorem d12_30 : decode prog_3_method_6_code 30 = .ok (.iload_n 0, 1) := by decide +kernel
theorem d12_31 : decode prog_3_method_6_code 31 = .ok (.bipush 57, 2) := by decide +kernel
theorem d12_33 : decode prog_3_method_6_code 33 = .ok (.if_icmp .le 21, 3) := by decide +kernel
theorem d12_36 : decode prog_3_method_6_code 36 = .ok (.iload_n 0, 1) := by decide +kernel
theorem d12_37 : decode prog_3_method_6_code 37 = .ok (.bipush 95, 2) := by decide +kernel
theorem d12_39 : decode prog_3_method_6_code 39 = .ok (.if_icmp .eq 15, 3) := by decide +kernel
theorem d12_42 : decode prog_3_method_6_code 42 = .ok (.iload_n 0, 1) := by decide +kernel
theorem d12_43 : decode prog_3_method_6_code 43 = .ok (.bipush 46, 2) := by decide +kernel
theorem d12_45 : decode prog_3_method_6_code 45 = .ok (.if_icmp .eq 9, 3) := by decide +kernel
theorem d12_48 : decode prog_3_method_6_code 48 = .ok (.iload_n 0, 1) := by decide +kernel
theorem d12_49 : decode prog_3_method_6_code 49 = .ok (.bipush 45, 2) := by decide +kernel
theorem d12_51 : decode prog_3_method_6_code 51 = .ok (.if_icmp .ne 7, 3) := by decide +kernel
theorem d12_54 : decode prog_3_method_6_code 54 = .ok (.iconst 1, 1) := by decide +kernel
theorem d12_55 : decode prog_3_method_6_code 55 = .ok (.goto 4, 3) := by decide +kernel
theorem d12_58 : decode prog_3_method_6_code 58 = .ok (.iconst 0, 1) := by decide +kernel
theorem d12_59 : decode prog_3_method_6_code 59 = .ok (.ireturn, 1) := by decide +kernel
theorem pd12 : parseMethodDescriptor "(C)Z" = some ⟨[.char], (some .boolean)⟩ := by decide +kernel
theorem pn12 : plainFor y12 = true := by first | exact plainFor_of_name (by first | (simp [plainName, overriddenIn]; done) | decide +kernel) | decide +kernel | rfl
set_option maxRecDepth 65536 in
set_option maxHeartbeats 40000000 in
theorem con_itc (l : Launch) (Z : State) (a0 : Array Value) (hw : ∀ d ∈ tables_1, d.before a0 Z = true) (h0 : Heap) (n0 : Nat) (σ : Sg) (c : Int32) (hc : TokC c) :
    Con l Z y12 prog_3_method_6_code 1 ((some .boolean)) ({ frames := 0, cells := 0, slots := 0, locals := 0 } : Room) [] #[(.int c)] σ h0 n0 (fun v h τ => h0 = h ∧ σ = τ ∧ v = some (.int 1)) := by
  refine Con.of_go pn12 (ls := #[.val (.int c)]) (fun m => by first | (simp [entryFrame, mkF, argsToLocals, Value.category]; done) | rfl) ?_
  intro κ D
  refine Go.iloadN D (pc' := 1) d12_0 rfl rfl ?_
  refine Go.bipush D (pc' := 3) d12_1 rfl (v := (65 : Int32)) rfl ?_
  refine Go.icmp D (pc' := 12) (pc2 := 6) d12_3 (by decide) (by decide) rfl ?_ ?_
  · intro (hc3 : c < (65 : Int32))
    refine Go.iloadN D (pc' := 13) d12_12 rfl rfl ?_
    refine Go.bipush D (pc' := 15) d12_13 rfl (v := (97 : Int32)) rfl ?_
    refine Go.icmp D (pc' := 24) (pc2 := 18) d12_15 (by decide) (by decide) rfl ?_ ?_
    · intro (hc15 : c < (97 : Int32))
      refine Go.iloadN D (pc' := 25) d12_24 rfl rfl ?_
      refine Go.bipush D (pc' := 27) d12_25 rfl (v := (48 : Int32)) rfl ?_
      refine Go.icmp D (pc' := 36) (pc2 := 30) d12_27 (by decide) (by decide) rfl ?_ ?_
      · intro (hc27 : c < (48 : Int32))
        refine Go.iloadN D (pc' := 37) d12_36 rfl rfl ?_
        refine Go.bipush D (pc' := 39) d12_37 rfl (v := (95 : Int32)) rfl ?_
        refine Go.icmp D (pc' := 54) (pc2 := 42) d12_39 (by decide) (by decide) rfl ?_ ?_
        · intro (hc39 : c = (95 : Int32))
          refine Go.iconst D (pc' := 55) d12_54 rfl (v := (1 : Int32)) rfl ?_
          refine Go.goto D (pc' := 59) d12_55 (by decide) (by decide) ?_
          refine Go.zret D rfl rfl d12_59 (by decide) (by decide) ?_
          exact ⟨rfl, rfl, rfl⟩
        · intro (hc39 : ¬ c = (95 : Int32))
          refine Go.iloadN D (pc' := 43) d12_42 rfl rfl ?_
          refine Go.bipush D (pc' := 45) d12_43 rfl (v := (46 : Int32)) rfl ?_
          refine Go.icmp D (pc' := 54) (pc2 := 48) d12_45 (by decide) (by decide) rfl ?_ ?_
          · intro (hc45 : c = (46 : Int32))
            refine Go.iconst D (pc' := 55) d12_54 rfl (v := (1 : Int32)) rfl ?_
            refine Go.goto D (pc' := 59) d12_55 (by decide) (by decide) ?_
            refine Go.zret D rfl rfl d12_59 (by decide) (by decide) ?_
            exact ⟨rfl, rfl, rfl⟩
          · intro (hc45 : ¬ c = (46 : Int32))
            refine Go.iloadN D (pc' := 49) d12_48 rfl rfl ?_
            refine Go.bipush D (pc' := 51) d12_49 rfl (v := (45 : Int32)) rfl ?_
            refine Go.icmp D (pc' := 58) (pc2 := 54) d12_51 (by decide) (by decide) rfl ?_ ?_
            · intro (hc51 : ¬ c = (45 : Int32))
              refine Go.iconst D (pc' := 59) d12_58 rfl (v := (0 : Int32)) rfl ?_
              refine Go.zret D rfl rfl d12_59 (by decide) (by decide) ?_
              exfalso
              unfold TokC at hc
              simp only [Int32.lt_iff_toInt_lt, ← Int32.toInt_inj, show (0 : Int32).toInt = 0 from rfl, show (26 : Int32).toInt = 26 from rfl, show (45 : Int32).toInt = 45 from rfl, show (46 : Int32).toInt = 46 from rfl, show (48 : Int32).toInt = 48 from rfl, show (52 : Int32).toInt = 52 from rfl, show (57 : Int32).toInt = 57 from rfl, show (62 : Int32).toInt = 62 from rfl, show (63 : Int32).toInt = 63 from rfl, show (65 : Int32).toInt = 65 from rfl, show (90 : Int32).toInt = 90 from rfl, show (95 : Int32).toInt = 95 from rfl, show (97 : Int32).toInt = 97 from rfl, show (122 : Int32).toInt = 122 from rfl, show (256 : Int32).toInt = 256 from rfl] at hc hc3 hc15 hc27 hc39 hc45 hc51
              omega
            · intro (hc51 : c = (45 : Int32))
              refine Go.iconst D (pc' := 55) d12_54 rfl (v := (1 : Int32)) rfl ?_
              refine Go.goto D (pc' := 59) d12_55 (by decide) (by decide) ?_
              refine Go.zret D rfl rfl d12_59 (by decide) (by decide) ?_
              exact ⟨rfl, rfl, rfl⟩
      · intro (hc27 : ¬ c < (48 : Int32))
        refine Go.iloadN D (pc' := 31) d12_30 rfl rfl ?_
        refine Go.bipush D (pc' := 33) d12_31 rfl (v := (57 : Int32)) rfl ?_
        refine Go.icmp D (pc' := 54) (pc2 := 36) d12_33 (by decide) (by decide) rfl ?_ ?_
        · intro (hc33 : ¬ (57 : Int32) < c)
          refine Go.iconst D (pc' := 55) d12_54 rfl (v := (1 : Int32)) rfl ?_
          refine Go.goto D (pc' := 59) d12_55 (by decide) (by decide) ?_
          refine Go.zret D rfl rfl d12_59 (by decide) (by decide) ?_
          exact ⟨rfl, rfl, rfl⟩
        · intro (hc33 : (57 : Int32) < c)
          refine Go.iloadN D (pc' := 37) d12_36 rfl rfl ?_
          refine Go.bipush D (pc' := 39) d12_37 rfl (v := (95 : Int32)) rfl ?_
          refine Go.icmp D (pc' := 54) (pc2 := 42) d12_39 (by decide) (by decide) rfl ?_ ?_
          · intro (hc39 : c = (95 : Int32))
            refine Go.iconst D (pc' := 55) d12_54 rfl (v := (1 : Int32)) rfl ?_
            refine Go.goto D (pc' := 59) d12_55 (by decide) (by decide) ?_
            refine Go.zret D rfl rfl d12_59 (by decide) (by decide) ?_
            exact ⟨rfl, rfl, rfl⟩
          · intro (hc39 : ¬ c = (95 : Int32))
            refine Go.iloadN D (pc' := 43) d12_42 rfl rfl ?_
            refine Go.bipush D (pc' := 45) d12_43 rfl (v := (46 : Int32)) rfl ?_
            refine Go.icmp D (pc' := 54) (pc2 := 48) d12_45 (by decide) (by decide) rfl ?_ ?_
            · intro (hc45 : c = (46 : Int32))
              refine Go.iconst D (pc' := 55) d12_54 rfl (v := (1 : Int32)) rfl ?_
              refine Go.goto D (pc' := 59) d12_55 (by decide) (by decide) ?_
              refine Go.zret D rfl rfl d12_59 (by decide) (by decide) ?_
              exact ⟨rfl, rfl, rfl⟩
            · intro (hc45 : ¬ c = (46 : Int32))
              refine Go.iloadN D (pc' := 49) d12_48 rfl rfl ?_
              refine Go.bipush D (pc' := 51) d12_49 rfl (v := (45 : Int32)) rfl ?_
              refine Go.icmp D (pc' := 58) (pc2 := 54) d12_51 (by decide) (by decide) rfl ?_ ?_
              · intro (hc51 : ¬ c = (45 : Int32))
                refine Go.iconst D (pc' := 59) d12_58 rfl (v := (0 : Int32)) rfl ?_
                refine Go.zret D rfl rfl d12_59 (by decide) (by decide) ?_
                exfalso
                unfold TokC at hc
                simp only [Int32.lt_iff_toInt_lt, ← Int32.toInt_inj, show (0 : Int32).toInt = 0 from rfl, show (26 : Int32).toInt = 26 from rfl, show (45 : Int32).toInt = 45 from rfl, show (46 : Int32).toInt = 46 from rfl, show (48 : Int32).toInt = 48 from rfl, show (52 : Int32).toInt = 52 from rfl, show (57 : Int32).toInt = 57 from rfl, show (62 : Int32).toInt = 62 from rfl, show (63 : Int32).toInt = 63 from rfl, show (65 : Int32).toInt = 65 from rfl, show (90 : Int32).toInt = 90 from rfl, show (95 : Int32).toInt = 95 from rfl, show (97 : Int32).toInt = 97 from rfl, show (122 : Int32).toInt = 122 from rfl, show (256 : Int32).toInt = 256 from rfl] at hc hc3 hc15 hc27 hc33 hc39 hc45 hc51
                omega
              · intro (hc51 : c = (45 : Int32))
                refine Go.iconst D (pc' := 55) d12_54 rfl (v := (1 : Int32)) rfl ?_
                refine Go.goto D (pc' := 59) d12_55 (by decide) (by decide) ?_
                refine Go.zret D rfl rfl d12_59 (by decide) (by decide) ?_
                exact ⟨rfl, rfl, rfl⟩
    · intro (hc15 : ¬ c < (97 : Int32))
      refine Go.iloadN D (pc' := 19) d12_18 rfl rfl ?_
      refine Go.bipush D (pc' := 21) d12_19 rfl (v := (122 : Int32)) rfl ?_
      refine Go.icmp D (pc' := 54) (pc2 := 24) d12_21 (by decide) (by decide) rfl ?_ ?_
      · intro (hc21 : ¬ (122 : Int32) < c)
        refine Go.iconst D (pc' := 55) d12_54 rfl (v := (1 : Int32)) rfl ?_
        refine Go.goto D (pc' := 59) d12_55 (by decide) (by decide) ?_
        refine Go.zret D rfl rfl d12_59 (by decide) (by decide) ?_
        exact ⟨rfl, rfl, rfl⟩
      · intro (hc21 : (122 : Int32) < c)
        refine Go.iloadN D (pc' := 25) d12_24 rfl rfl ?_
        refine Go.bipush D (pc' := 27) d12_25 rfl (v := (48 : Int32)) rfl ?_
        refine Go.icmp D (pc' := 36) (pc2 := 30) d12_27 (by decide) (by decide) rfl ?_ ?_
        · intro (hc27 : c < (48 : Int32))
          refine Go.iloadN D (pc' := 37) d12_36 rfl rfl ?_
          refine Go.bipush D (pc' := 39) d12_37 rfl (v := (95 : Int32)) rfl ?_
          refine Go.icmp D (pc' := 54) (pc2 := 42) d12_39 (by decide) (by decide) rfl ?_ ?_
          · intro (hc39 : c = (95 : Int32))
            refine Go.iconst D (pc' := 55) d12_54 rfl (v := (1 : Int32)) rfl ?_
            refine Go.goto D (pc' := 59) d12_55 (by decide) (by decide) ?_
            refine Go.zret D rfl rfl d12_59 (by decide) (by decide) ?_
            exact ⟨rfl, rfl, rfl⟩
          · intro (hc39 : ¬ c = (95 : Int32))
            refine Go.iloadN D (pc' := 43) d12_42 rfl rfl ?_
            refine Go.bipush D (pc' := 45) d12_43 rfl (v := (46 : Int32)) rfl ?_
            refine Go.icmp D (pc' := 54) (pc2 := 48) d12_45 (by decide) (by decide) rfl ?_ ?_
            · intro (hc45 : c = (46 : Int32))
              refine Go.iconst D (pc' := 55) d12_54 rfl (v := (1 : Int32)) rfl ?_
              refine Go.goto D (pc' := 59) d12_55 (by decide) (by decide) ?_
              refine Go.zret D rfl rfl d12_59 (by decide) (by decide) ?_
              exact ⟨rfl, rfl, rfl⟩
            · intro (hc45 : ¬ c = (46 : Int32))
              refine Go.iloadN D (pc' := 49) d12_48 rfl rfl ?_
              refine Go.bipush D (pc' := 51) d12_49 rfl (v := (45 : Int32)) rfl ?_
              refine Go.icmp D (pc' := 58) (pc2 := 54) d12_51 (by decide) (by decide) rfl ?_ ?_
              · intro (hc51 : ¬ c = (45 : Int32))
                refine Go.iconst D (pc' := 59) d12_58 rfl (v := (0 : Int32)) rfl ?_
                refine Go.zret D rfl rfl d12_59 (by decide) (by decide) ?_
                exfalso
                unfold TokC at hc
                simp only [Int32.lt_iff_toInt_lt, ← Int32.toInt_inj, show (0 : Int32).toInt = 0 from rfl, show (26 : Int32).toInt = 26 from rfl, show (45 : Int32).toInt = 45 from rfl, show (46 : Int32).toInt = 46 from rfl, show (48 : Int32).toInt = 48 from rfl, show (52 : Int32).toInt = 52 from rfl, show (57 : Int32).toInt = 57 from rfl, show (62 : Int32).toInt = 62 from rfl, show (63 : Int32).toInt = 63 from rfl, show (65 : Int32).toInt = 65 from rfl, show (90 : Int32).toInt = 90 from rfl, show (95 : Int32).toInt = 95 from rfl, show (97 : Int32).toInt = 97 from rfl, show (122 : Int32).toInt = 122 from rfl, show (256 : Int32).toInt = 256 from rfl] at hc hc3 hc15 hc21 hc27 hc39 hc45 hc51
                omega
              · intro (hc51 : c = (45 : Int32))
                refine Go.iconst D (pc' := 55) d12_54 rfl (v := (1 : Int32)) rfl ?_
                refine Go.goto D (pc' := 59) d12_55 (by decide) (by decide) ?_
                refine Go.zret D rfl rfl d12_59 (by decide) (by decide) ?_
                exact ⟨rfl, rfl, rfl⟩
        · intro (hc27 : ¬ c < (48 : Int32))
          refine Go.iloadN D (pc' := 31) d12_30 rfl rfl ?_
          refine Go.bipush D (pc' := 33) d12_31 rfl (v := (57 : Int32)) rfl ?_
          refine Go.icmp D (pc' := 54) (pc2 := 36) d12_33 (by decide) (by decide) rfl ?_ ?_
          · intro (hc33 : ¬ (57 : Int32) < c)
            refine Go.iconst D (pc' := 55) d12_54 rfl (v := (1 : Int32)) rfl ?_
            refine Go.goto D (pc' := 59) d12_55 (by decide) (by decide) ?_
            refine Go.zret D rfl rfl d12_59 (by decide) (by decide) ?_
            exact ⟨rfl, rfl, rfl⟩
          · intro (hc33 : (57 : Int32) < c)
            refine Go.iloadN D (pc' := 37) d12_36 rfl rfl ?_
            refine Go.bipush D (pc' := 39) d12_37 rfl (v := (95 : Int32)) rfl ?_
            refine Go.icmp D (pc' := 54) (pc2 := 42) d12_39 (by decide) (by decide) rfl ?_ ?_
            · intro (hc39 : c = (95 : Int32))
              refine Go.iconst D (pc' := 55) d12_54 rfl (v := (1 : Int32)) rfl ?_
              refine Go.goto D (pc' := 59) d12_55 (by decide) (by decide) ?_
              refine Go.zret D rfl rfl d12_59 (by decide) (by decide) ?_
              exact ⟨rfl, rfl, rfl⟩
            · intro (hc39 : ¬ c = (95 : Int32))
              refine Go.iloadN D (pc' := 43) d12_42 rfl rfl ?_
              refine Go.bipush D (pc' := 45) d12_43 rfl (v := (46 : Int32)) rfl ?_
              refine Go.icmp D (pc' := 54) (pc2 := 48) d12_45 (by decide) (by decide) rfl ?_ ?_
              · intro (hc45 : c = (46 : Int32))
                refine Go.iconst D (pc' := 55) d12_54 rfl (v := (1 : Int32)) rfl ?_
                refine Go.goto D (pc' := 59) d12_55 (by decide) (by decide) ?_
                refine Go.zret D rfl rfl d12_59 (by decide) (by decide) ?_
                exact ⟨rfl, rfl, rfl⟩
              · intro (hc45 : ¬ c = (46 : Int32))
                refine Go.iloadN D (pc' := 49) d12_48 rfl rfl ?_
                refine Go.bipush D (pc' := 51) d12_49 rfl (v := (45 : Int32)) rfl ?_
                refine Go.icmp D (pc' := 58) (pc2 := 54) d12_51 (by decide) (by decide) rfl ?_ ?_
                · intro (hc51 : ¬ c = (45 : Int32))
                  refine Go.iconst D (pc' := 59) d12_58 rfl (v := (0 : Int32)) rfl ?_
                  refine Go.zret D rfl rfl d12_59 (by decide) (by decide) ?_
                  exfalso
                  unfold TokC at hc
                  simp only [Int32.lt_iff_toInt_lt, ← Int32.toInt_inj, show (0 : Int32).toInt = 0 from rfl, show (26 : Int32).toInt = 26 from rfl, show (45 : Int32).toInt = 45 from rfl, show (46 : Int32).toInt = 46 from rfl, show (48 : Int32).toInt = 48 from rfl, show (52 : Int32).toInt = 52 from rfl, show (57 : Int32).toInt = 57 from rfl, show (62 : Int32).toInt = 62 from rfl, show (63 : Int32).toInt = 63 from rfl, show (65 : Int32).toInt = 65 from rfl, show (90 : Int32).toInt = 90 from rfl, show (95 : Int32).toInt = 95 from rfl, show (97 : Int32).toInt = 97 from rfl, show (122 : Int32).toInt = 122 from rfl, show (256 : Int32).toInt = 256 from rfl] at hc hc3 hc15 hc21 hc27 hc33 hc39 hc45 hc51
                  omega
                · intro (hc51 : c = (45 : Int32))
                  refine Go.iconst D (pc' := 55) d12_54 rfl (v := (1 : Int32)) rfl ?_
                  refine Go.goto D (pc' := 59) d12_55 (by decide) (by decide) ?_
                  refine Go.zret D rfl rfl d12_59 (by decide) (by decide) ?_
                  exact ⟨rfl, rfl, rfl⟩
  · intro (hc3 : ¬ c < (65 : Int32))
    refine Go.iloadN D (pc' := 7) d12_6 rfl rfl ?_
    refine Go.bipush D (pc' := 9) d12_7 rfl (v := (90 : Int32)) rfl ?_
    refine Go.icmp D (pc' := 54) (pc2 := 12) d12_9 (by decide) (by decide) rfl ?_ ?_
    · intro (hc9 : ¬ (90 : Int32) < c)
      refine Go.iconst D (pc' := 55) d12_54 rfl (v := (1 : Int32)) rfl ?_
      refine Go.goto D (pc' := 59) d12_55 (by decide) (by decide) ?_
      refine Go.zret D rfl rfl d12_59 (by decide) (by decide) ?_
      exact ⟨rfl, rfl, rfl⟩
    · intro (hc9 : (90 : Int32) < c)
      refine Go.iloadN D (pc' := 13) d12_12 rfl rfl ?_
      refine Go.bipush D (pc' := 15) d12_13 rfl (v := (97 : Int32)) rfl ?_
      refine Go.icmp D (pc' := 24) (pc2 := 18) d12_15 (by decide) (by decide) rfl ?_ ?_
      · intro (hc15 : c < (97 : Int32))
        refine Go.iloadN D (pc' := 25) d12_24 rfl rfl ?_
        refine Go.bipush D (pc' := 27) d12_25 rfl (v := (48 : Int32)) rfl ?_
        refine Go.icmp D (pc' := 36) (pc2 := 30) d12_27 (by decide) (by decide) rfl ?_ ?_
        · intro (hc27 : c < (48 : Int32))
          refine Go.iloadN D (pc' := 37) d12_36 rfl rfl ?_
          refine Go.bipush D (pc' := 39) d12_37 rfl (v := (95 : Int32)) rfl ?_
          refine Go.icmp D (pc' := 54) (pc2 := 42) d12_39 (by decide) (by decide) rfl ?_ ?_
          · intro (hc39 : c = (95 : Int32))
            refine Go.iconst D (pc' := 55) d12_54 rfl (v := (1 : Int32)) rfl ?_
            refine Go.goto D (pc' := 59) d12_55 (by decide) (by decide) ?_
            refine Go.zret D rfl rfl d12_59 (by decide) (by decide) ?_
            exact ⟨rfl, rfl, rfl⟩
          · intro (hc39 : ¬ c = (95 : Int32))
            refine Go.iloadN D (pc' := 43) d12_42 rfl rfl ?_
            refine Go.bipush D (pc' := 45) d12_43 rfl (v := (46 : Int32)) rfl ?_
            refine Go.icmp D (pc' := 54) (pc2 := 48) d12_45 (by decide) (by decide) rfl ?_ ?_
            · intro (hc45 : c = (46 : Int32))
              refine Go.iconst D (pc' := 55) d12_54 rfl (v := (1 : Int32)) rfl ?_
              refine Go.goto D (pc' := 59) d12_55 (by decide) (by decide) ?_
              refine Go.zret D rfl rfl d12_59 (by decide) (by decide) ?_
              exact ⟨rfl, rfl, rfl⟩
            · intro (hc45 : ¬ c = (46 : Int32))
              refine Go.iloadN D (pc' := 49) d12_48 rfl rfl ?_
              refine Go.bipush D (pc' := 51) d12_49 rfl (v := (45 : Int32)) rfl ?_
              refine Go.icmp D (pc' := 58) (pc2 := 54) d12_51 (by decide) (by decide) rfl ?_ ?_
              · intro (hc51 : ¬ c = (45 : Int32))
                refine Go.iconst D (pc' := 59) d12_58 rfl (v := (0 : Int32)) rfl ?_
                refine Go.zret D rfl rfl d12_59 (by decide) (by decide) ?_
                exfalso
                unfold TokC at hc
                simp only [Int32.lt_iff_toInt_lt, ← Int32.toInt_inj, show (0 : Int32).toInt = 0 from rfl, show (26 : Int32).toInt = 26 from rfl, show (45 : Int32).toInt = 45 from rfl, show (46 : Int32).toInt = 46 from rfl, show (48 : Int32).toInt = 48 from rfl, show (52 : Int32).toInt = 52 from rfl, show (57 : Int32).toInt = 57 from rfl, show (62 : Int32).toInt = 62 from rfl, show (63 : Int32).toInt = 63 from rfl, show (65 : Int32).toInt = 65 from rfl, show (90 : Int32).toInt = 90 from rfl, show (95 : Int32).toInt = 95 from rfl, show (97 : Int32).toInt = 97 from rfl, show (122 : Int32).toInt = 122 from rfl, show (256 : Int32).toInt = 256 from rfl] at hc hc3 hc9 hc15 hc27 hc39 hc45 hc51
                omega
              · intro (hc51 : c = (45 : Int32))
                refine Go.iconst D (pc' := 55) d12_54 rfl (v := (1 : Int32)) rfl ?_
                refine Go.goto D (pc' := 59) d12_55 (by decide) (by decide) ?_
                refine Go.zret D rfl rfl d12_59 (by decide) (by decide) ?_
                exact ⟨rfl, rfl, rfl⟩
        · intro (hc27 : ¬ c < (48 : Int32))
          refine Go.iloadN D (pc' := 31) d12_30 rfl rfl ?_
          refine Go.bipush D (pc' := 33) d12_31 rfl (v := (57 : Int32)) rfl ?_
          refine Go.icmp D (pc' := 54) (pc2 := 36) d12_33 (by decide) (by decide) rfl ?_ ?_
          · intro (hc33 : ¬ (57 : Int32) < c)
            refine Go.iconst D (pc' := 55) d12_54 rfl (v := (1 : Int32)) rfl ?_
            refine Go.goto D (pc' := 59) d12_55 (by decide) (by decide) ?_
            refine Go.zret D rfl rfl d12_59 (by decide) (by decide) ?_
            exact ⟨rfl, rfl, rfl⟩
          · intro (hc33 : (57 : Int32) < c)
            refine Go.iloadN D (pc' := 37) d12_36 rfl rfl ?_
            refine Go.bipush D (pc' := 39) d12_37 rfl (v := (95 : Int32)) rfl ?_
            refine Go.icmp D (pc' := 54) (pc2 := 42) d12_39 (by decide) (by decide) rfl ?_ ?_
            · intro (hc39 : c = (95 : Int32))
              refine Go.iconst D (pc' := 55) d12_54 rfl (v := (1 : Int32)) rfl ?_
              refine Go.goto D (pc' := 59) d12_55 (by decide) (by decide) ?_
              refine Go.zret D rfl rfl d12_59 (by decide) (by decide) ?_
              exact ⟨rfl, rfl, rfl⟩
            · intro (hc39 : ¬ c = (95 : Int32))
              refine Go.iloadN D (pc' := 43) d12_42 rfl rfl ?_
              refine Go.bipush D (pc' := 45) d12_43 rfl (v := (46 : Int32)) rfl ?_
              refine Go.icmp D (pc' := 54) (pc2 := 48) d12_45 (by decide) (by decide) rfl ?_ ?_
              · intro (hc45 : c = (46 : Int32))
                refine Go.iconst D (pc' := 55) d12_54 rfl (v := (1 : Int32)) rfl ?_
                refine Go.goto D (pc' := 59) d12_55 (by decide) (by decide) ?_
                refine Go.zret D rfl rfl d12_59 (by decide) (by decide) ?_
                exact ⟨rfl, rfl, rfl⟩
              · intro (hc45 : ¬ c = (46 : Int32))
                refine Go.iloadN D (pc' := 49) d12_48 rfl rfl ?_
                refine Go.bipush D (pc' := 51) d12_49 rfl (v := (45 : Int32)) rfl ?_
                refine Go.icmp D (pc' := 58) (pc2 := 54) d12_51 (by decide) (by decide) rfl ?_ ?_
                · intro (hc51 : ¬ c = (45 : Int32))
                  refine Go.iconst D (pc' := 59) d12_58 rfl (v := (0 : Int32)) rfl ?_
                  refine Go.zret D rfl rfl d12_59 (by decide) (by decide) ?_
                  exfalso
                  unfold TokC at hc
                  simp only [Int32.lt_iff_toInt_lt, ← Int32.toInt_inj, show (0 : Int32).toInt = 0 from rfl, show (26 : Int32).toInt = 26 from rfl, show (45 : Int32).toInt = 45 from rfl, show (46 : Int32).toInt = 46 from rfl, show (48 : Int32).toInt = 48 from rfl, show (52 : Int32).toInt = 52 from rfl, show (57 : Int32).toInt = 57 from rfl, show (62 : Int32).toInt = 62 from rfl, show (63 : Int32).toInt = 63 from rfl, show (65 : Int32).toInt = 65 from rfl, show (90 : Int32).toInt = 90 from rfl, show (95 : Int32).toInt = 95 from rfl, show (97 : Int32).toInt = 97 from rfl, show (122 : Int32).toInt = 122 from rfl, show (256 : Int32).toInt = 256 from rfl] at hc hc3 hc9 hc15 hc27 hc33 hc39 hc45 hc51
                  omega
                · intro (hc51 : c = (45 : Int32))
                  refine Go.iconst D (pc' := 55) d12_54 rfl (v := (1 : Int32)) rfl ?_
                  refine Go.goto D (pc' := 59) d12_55 (by decide) (by decide) ?_
                  refine Go.zret D rfl rfl d12_59 (by decide) (by decide) ?_
                  exact ⟨rfl, rfl, rfl⟩
      · intro (hc15 : ¬ c < (97 : Int32))
        refine Go.iloadN D (pc' := 19) d12_18 rfl rfl ?_
        refine Go.bipush D (pc' := 21) d12_19 rfl (v := (122 : Int32)) rfl ?_
        refine Go.icmp D (pc' := 54) (pc2 := 24) d12_21 (by decide) (by decide) rfl ?_ ?_
        · intro (hc21 : ¬ (122 : Int32) < c)
          refine Go.iconst D (pc' := 55) d12_54 rfl (v := (1 : Int32)) rfl ?_
          refine Go.goto D (pc' := 59) d12_55 (by decide) (by decide) ?_
          refine Go.zret D rfl rfl d12_59 (by decide) (by decide) ?_
          exact ⟨rfl, rfl, rfl⟩
        · intro (hc21 : (122 : Int32) < c)
          refine Go.iloadN D (pc' := 25) d12_24 rfl rfl ?_
          refine Go.bipush D (pc' := 27) d12_25 rfl (v := (48 : Int32)) rfl ?_
          refine Go.icmp D (pc' := 36) (pc2 := 30) d12_27 (by decide) (by decide) rfl ?_ ?_
          · intro (hc27 : c < (48 : Int32))
            refine Go.iloadN D (pc' := 37) d12_36 rfl rfl ?_
            refine Go.bipush D (pc' := 39) d12_37 rfl (v := (95 : Int32)) rfl ?_
            refine Go.icmp D (pc' := 54) (pc2 := 42) d12_39 (by decide) (by decide) rfl ?_ ?_
            · intro (hc39 : c = (95 : Int32))
              refine Go.iconst D (pc' := 55) d12_54 rfl (v := (1 : Int32)) rfl ?_
              refine Go.goto D (pc' := 59) d12_55 (by decide) (by decide) ?_
              refine Go.zret D rfl rfl d12_59 (by decide) (by decide) ?_
              exact ⟨rfl, rfl, rfl⟩
            · intro (hc39 : ¬ c = (95 : Int32))
              refine Go.iloadN D (pc' := 43) d12_42 rfl rfl ?_
              refine Go.bipush D (pc' := 45) d12_43 rfl (v := (46 : Int32)) rfl ?_
              refine Go.icmp D (pc' := 54) (pc2 := 48) d12_45 (by decide) (by decide) rfl ?_ ?_
              · intro (hc45 : c = (46 : Int32))
                refine Go.iconst D (pc' := 55) d12_54 rfl (v := (1 : Int32)) rfl ?_
                refine Go.goto D (pc' := 59) d12_55 (by decide) (by decide) ?_
                refine Go.zret D rfl rfl d12_59 (by decide) (by decide) ?_
                exact ⟨rfl, rfl, rfl⟩
              · intro (hc45 : ¬ c = (46 : Int32))
                refine Go.iloadN D (pc' := 49) d12_48 rfl rfl ?_
                refine Go.bipush D (pc' := 51) d12_49 rfl (v := (45 : Int32)) rfl ?_
                refine Go.icmp D (pc' := 58) (pc2 := 54) d12_51 (by decide) (by decide) rfl ?_ ?_
                · intro (hc51 : ¬ c = (45 : Int32))
                  refine Go.iconst D (pc' := 59) d12_58 rfl (v := (0 : Int32)) rfl ?_
                  refine Go.zret D rfl rfl d12_59 (by decide) (by decide) ?_
                  exfalso
                  unfold TokC at hc
                  simp only [Int32.lt_iff_toInt_lt, ← Int32.toInt_inj, show (0 : Int32).toInt = 0 from rfl, show (26 : Int32).toInt = 26 from rfl, show (45 : Int32).toInt = 45 from rfl, show (46 : Int32).toInt = 46 from rfl, show (48 : Int32).toInt = 48 from rfl, show (52 : Int32).toInt = 52 from rfl, show (57 : Int32).toInt = 57 from rfl, show (62 : Int32).toInt = 62 from rfl, show (63 : Int32).toInt = 63 from rfl, show (65 : Int32).toInt = 65 from rfl, show (90 : Int32).toInt = 90 from rfl, show (95 : Int32).toInt = 95 from rfl, show (97 : Int32).toInt = 97 from rfl, show (122 : Int32).toInt = 122 from rfl, show (256 : Int32).toInt = 256 from rfl] at hc hc3 hc9 hc15 hc21 hc27 hc39 hc45 hc51
                  omega
                · intro (hc51 : c = (45 : Int32))
                  refine Go.iconst D (pc' := 55) d12_54 rfl (v := (1 : Int32)) rfl ?_
                  refine Go.goto D (pc' := 59) d12_55 (by decide) (by decide) ?_
                  refine Go.zret D rfl rfl d12_59 (by decide) (by decide) ?_
                  exact ⟨rfl, rfl, rfl⟩
          · intro (hc27 : ¬ c < (48 : Int32))
            refine Go.iloadN D (pc' := 31) d12_30 rfl rfl ?_
            refine Go.bipush D (pc' := 33) d12_31 rfl (v := (57 : Int32)) rfl ?_
            refine Go.icmp D (pc' := 54) (pc2 := 36) d12_33 (by decide) (by decide) rfl ?_ ?_
            · intro (hc33 : ¬ (57 : Int32) < c)
              refine Go.iconst D (pc' := 55) d12_54 rfl (v := (1 : Int32)) rfl ?_
              refine Go.goto D (pc' := 59) d12_55 (by decide) (by decide) ?_
              refine Go.zret D rfl rfl d12_59 (by decide) (by decide) ?_
              exact ⟨rfl, rfl, rfl⟩
            · intro (hc33 : (57 : Int32) < c)
              refine Go.iloadN D (pc' := 37) d12_36 rfl rfl ?_
              refine Go.bipush D (pc' := 39) d12_37 rfl (v := (95 : Int32)) rfl ?_
              refine Go.icmp D (pc' := 54) (pc2 := 42) d12_39 (by decide) (by decide) rfl ?_ ?_
              · intro (hc39 : c = (95 : Int32))
                refine Go.iconst D (pc' := 55) d12_54 rfl (v := (1 : Int32)) rfl ?_
                refine Go.goto D (pc' := 59) d12_55 (by decide) (by decide) ?_
                refine Go.zret D rfl rfl d12_59 (by decide) (by decide) ?_
                exact ⟨rfl, rfl, rfl⟩
              · intro (hc39 : ¬ c = (95 : Int32))
                refine Go.iloadN D (pc' := 43) d12_42 rfl rfl ?_
                refine Go.bipush D (pc' := 45) d12_43 rfl (v := (46 : Int32)) rfl ?_
                refine Go.icmp D (pc' := 54) (pc2 := 48) d12_45 (by decide) (by decide) rfl ?_ ?_
                · intro (hc45 : c = (46 : Int32))
                  refine Go.iconst D (pc' := 55) d12_54 rfl (v := (1 : Int32)) rfl ?_
                  refine Go.goto D (pc' := 59) d12_55 (by decide) (by decide) ?_
                  refine Go.zret D rfl rfl d12_59 (by decide) (by decide) ?_
                  exact ⟨rfl, rfl, rfl⟩
                · intro (hc45 : ¬ c = (46 : Int32))
                  refine Go.iloadN D (pc' := 49) d12_48 rfl rfl ?_
                  refine Go.bipush D (pc' := 51) d12_49 rfl (v := (45 : Int32)) rfl ?_
                  refine Go.icmp D (pc' := 58) (pc2 := 54) d12_51 (by decide) (by decide) rfl ?_ ?_
                  · intro (hc51 : ¬ c = (45 : Int32))
                    refine Go.iconst D (pc' := 59) d12_58 rfl (v := (0 : Int32)) rfl ?_
                    refine Go.zret D rfl rfl d12_59 (by decide) (by decide) ?_
                    exfalso
                    unfold TokC at hc
                    simp only [Int32.lt_iff_toInt_lt, ← Int32.toInt_inj, show (0 : Int32).toInt = 0 from rfl, show (26 : Int32).toInt = 26 from rfl, show (45 : Int32).toInt = 45 from rfl, show (46 : Int32).toInt = 46 from rfl, show (48 : Int32).toInt = 48 from rfl, show (52 : Int32).toInt = 52 from rfl, show (57 : Int32).toInt = 57 from rfl, show (62 : Int32).toInt = 62 from rfl, show (63 : Int32).toInt = 63 from rfl, show (65 : Int32).toInt = 65 from rfl, show (90 : Int32).toInt = 90 from rfl, show (95 : Int32).toInt = 95 from rfl, show (97 : Int32).toInt = 97 from rfl, show (122 : Int32).toInt = 122 from rfl, show (256 : Int32).toInt = 256 from rfl] at hc hc3 hc9 hc15 hc21 hc27 hc33 hc39 hc45 hc51
                    omega
                  · intro (hc51 : c = (45 : Int32))
                    refine Go.iconst D (pc' := 55) d12_54 rfl (v := (1 : Int32)) rfl ?_
                    refine Go.goto D (pc' := 59) d12_55 (by decide) (by decide) ?_
                    refine Go.zret D rfl rfl d12_59 (by decide) (by decide) ?_
                    exact ⟨rfl, rfl, rfl⟩
abbrev y6 : MethodName := ⟨"com/example/ticks_into_totals/ticksintototals/CounterName", "isToken", "(Ljava/lang/String;)Z"⟩
theorem d6_0 : decode prog_3_method_5_code 0 = .ok (.iconst 0, 1) := by decide +kernel
theorem d6_1 : decode prog_3_method_5_code 1 = .ok (.istore_n 1, 1) := by decide +kernel
theorem d6_2 : decode prog_3_method_5_code 2 = .ok (.iload_n 1, 1) := by decide +kernel
theorem d6_3 : decode prog_3_method_5_code 3 = .ok (.aload_n 0, 1) := by decide +kernel
theorem d6_4 : decode prog_3_method_5_code 4 = .ok (.invokevirtual 49, 3) := by decide +kernel
theorem d6_7 : decode prog_3_method_5_code 7 = .ok (.if_icmp .ge 22, 3) := by decide +kernel
theorem d6_10 : decode prog_3_method_5_code 10 = .ok (.aload_n 0, 1) := by decide +kernel
theorem d6_11 : decode prog_3_method_5_code 11 = .ok (.iload_n 1, 1) := by decide +kernel
theorem d6_12 : decode prog_3_method_5_code 12 = .ok (.invokevirtual 75, 3) := by decide +kernel
theorem d6_15 : decode prog_3_method_5_code 15 = .ok (.invokestatic 79, 3) := by decide +kernel
theorem d6_18 : decode prog_3_method_5_code 18 = .ok (.ifCond .ne 5, 3) := by decide +kernel
theorem d6_21 : decode prog_3_method_5_code 21 = .ok (.iconst 0, 1) := by decide +kernel
theorem d6_22 : decode prog_3_method_5_code 22 = .ok (.ireturn, 1) := by decide +kernel
theorem d6_23 : decode prog_3_method_5_code 23 = .ok (.iinc 1 1, 3) := by decide +kernel
theorem d6_26 : decode prog_3_method_5_code 26 = .ok (.goto (-24), 3) := by decide +kernel
theorem d6_29 : decode prog_3_method_5_code 29 = .ok (.iconst 1, 1) := by decide +kernel
theorem d6_30 : decode prog_3_method_5_code 30 = .ok (.ireturn, 1) := by decide +kernel
theorem pd6 : parseMethodDescriptor "(Ljava/lang/String;)Z" = some ⟨[(.object "java/lang/String")], (some .boolean)⟩ := by decide +kernel
theorem pn6 : plainFor y6 = true := by first | exact plainFor_of_name (by first | (simp [plainName, overriddenIn]; done) | decide +kernel) | decide +kernel | rfl
set_option maxRecDepth 65536 in
set_option maxHeartbeats 40000000 in
theorem con_isTok (l : Launch) (Z : State) (a0 : Array Value) (hw : ∀ d ∈ tables_1, d.before a0 Z = true) (h0 : Heap) (n0 : Nat) (σ : Sg) (s : Addr) (cs : List Int32) (S : Str Z h0 s cs) (ht : ∀ c ∈ cs, TokC c) (cz : Int32) (hcz : ¬ cz = 0) (O2 : Sta Z Z.heap "java/lang/String" "COMPACT_STRINGS" "Z" (.int cz)) (fm : Value) (rf : fm.isRef = true) (O4 : Sta Z Z.heap "jdk/internal/util/Preconditions" "SIOOBE_FORMATTER" "Ljava/util/function/BiFunction;" fm) :
    Con l Z y6 prog_3_method_5_code 2 ((some .boolean)) ({ frames := 4, cells := 0, slots := 0, locals := 60 } : Room) [] #[(.ref s)] σ h0 n0 (fun v h τ => h0 = h ∧ σ = τ ∧ v = some (.int 1)) := by
  refine Con.of_go pn6 (ls := #[.val (.ref s), .unset]) (fun m => by first | (simp [entryFrame, mkF, argsToLocals, Value.category]; done) | rfl) ?_
  intro κ D
  have hl := S.2.2
  have loop : ∀ (N i : Nat), cs.length - i = N → i ≤ cs.length → Go κ σ h0 0 0 2 #[.val (.ref s), .val (.int (Int32.ofNat i))] [] := by
    intro N
    induction N using Nat.strongRecOn with
    | _ N ih =>
      intro i hN hi0
      refine Go.iloadN D (pc' := 3) d6_2 rfl rfl ?_
      refine Go.aloadN D (pc' := 4) d6_3 rfl rfl rfl ?_
      refine Go.callV D (argsL := []) (rest := [(.int (Int32.ofNat i))]) (pc' := 7) (ce' := 0) (sl' := 0) (con_slen l Z a0 hw h0 n0 σ s cs S cz hcz O2) (hw _ (List.mem_of_getElem? (i := 23) rfl)) (hw _ (List.mem_of_getElem? (i := 24) rfl)) (hw _ (List.mem_of_getElem? (i := 26) rfl)) (hw _ (List.mem_of_getElem? (i := 25) rfl)) (hw _ (List.mem_of_getElem? (i := 1) rfl)) (hw _ (List.mem_of_getElem? (i := 27) rfl)) (nfS (hw _ (List.mem_of_getElem? (i := 26) rfl))) (by decide) S.1.1 d6_4 rfl pd4 rfl rfl rfl (by decide) (W := 1) rfl (by decide) (by decide) (by decide) (by decide) (by decide) ?_
      intro v4 h4 σ4 q4
      obtain ⟨rfl, rfl, rfl⟩ := q4
      show Go κ σ h0 0 0 7 #[.val (.ref s), .val (.int (Int32.ofNat i))] [(.int (Int32.ofNat cs.length)), (.int (Int32.ofNat i))]
      refine Go.icmp D (pc' := 29) (pc2 := 10) d6_7 (by decide) (by decide) rfl ?_ ?_
      · intro (hc7 : ¬ (Int32.ofNat i) < (Int32.ofNat cs.length))
        refine Go.iconst D (pc' := 30) d6_29 rfl (v := (1 : Int32)) rfl ?_
        refine Go.zret D rfl rfl d6_30 (by decide) (by decide) ?_
        exact ⟨rfl, rfl, rfl⟩
      · intro (hc7 : (Int32.ofNat i) < (Int32.ofNat cs.length))
        have hi : i < cs.length := (own_lt (by omega) (by omega)).mp hc7
        refine Go.aloadN D (pc' := 11) d6_10 rfl rfl rfl ?_
        refine Go.iloadN D (pc' := 12) d6_11 rfl rfl ?_
        refine Go.callV D (argsL := [(.int (Int32.ofNat i))]) (rest := []) (pc' := 15) (ce' := 0) (sl' := 0) (con_chAt l Z a0 hw h0 n0 σ s cs S i hi cz hcz O2 fm rf O4) (hw _ (List.mem_of_getElem? (i := 38) rfl)) (hw _ (List.mem_of_getElem? (i := 39) rfl)) (hw _ (List.mem_of_getElem? (i := 41) rfl)) (hw _ (List.mem_of_getElem? (i := 40) rfl)) (hw _ (List.mem_of_getElem? (i := 1) rfl)) (hw _ (List.mem_of_getElem? (i := 42) rfl)) (nfS (hw _ (List.mem_of_getElem? (i := 41) rfl))) (by decide) S.1.1 d6_12 rfl pd7 rfl rfl rfl (by decide) (W := 0) rfl (by decide) (by decide) (by decide) (by decide) (by decide) ?_
        intro v12 h12 σ12 q12
        obtain ⟨rfl, rfl, rfl⟩ := q12
        show Go κ σ h0 0 0 15 #[.val (.ref s), .val (.int (Int32.ofNat i))] [(.int cs[i])]
        refine Go.callS D (argsL := [(.int cs[i])]) (rest := []) (pc' := 18) (ce' := 0) (sl' := 0) (con_itc l Z a0 hw h0 n0 σ cs[i] (ht _ (List.getElem_mem hi))) (hw _ (List.mem_of_getElem? (i := 60) rfl)) (hw _ (List.mem_of_getElem? (i := 61) rfl)) (hw _ (List.mem_of_getElem? (i := 11) rfl)) (hw _ (List.mem_of_getElem? (i := 62) rfl)) (by decide) d6_15 rfl pd12 rfl rfl rfl (by decide) (W := 0) rfl (by decide) (by decide) (by decide) (by decide) (by decide) ?_
        intro v15 h15 σ15 q15
        obtain ⟨rfl, rfl, rfl⟩ := q15
        show Go κ σ h0 0 0 18 #[.val (.ref s), .val (.int (Int32.ofNat i))] [(.int (1 : Int32))]
        refine Go.ifc D (pc' := 23) (pc2 := 21) d6_18 (by decide) (by decide) rfl (fun _ => ?_) (fun (hc : (1 : Int32) = 0) => absurd hc (by decide))
        refine Go.iinc D (pc' := 26) d6_23 rfl rfl (d := (1 : Int32)) rfl (ls' := #[.val (.ref s), .val (.int ((Int32.ofNat i) + (1 : Int32)))]) rfl ?_
        refine Go.goto D (pc' := 2) d6_26 (by decide) (by decide) ?_
        rw [own_succ]
        exact ih (cs.length - (i + 1)) (by omega) (i + 1) rfl (by omega)
  refine Go.iconst D (pc' := 1) d6_0 rfl (v := (0 : Int32)) rfl ?_
  refine Go.istoreN D (pc' := 2) d6_1 rfl (ls' := #[.val (.ref s), .val (.int (0 : Int32))]) rfl ?_
  exact loop (cs.length - 0) 0 rfl (by omega)
abbrev y1 : MethodName := ⟨"com/example/ticks_into_totals/ticksintototals/CounterName", "checkToken", "(Ljava/lang/String;Ljava/lang/String;)Ljava/lang/String;"⟩
theorem d1_0 : decode prog_3_method_4_code 0 = .ok (.aload_n 1, 1) := by decide +kernel
theorem d1_1 : decode prog_3_method_4_code 1 = .ok (.aload_n 0, 1) := by decide +kernel
theorem d1_2 : decode prog_3_method_4_code 2 = .ok (.invokestatic 39, 3) := by decide +kernel
theorem d1_5 : decode prog_3_method_4_code 5 = .ok (.pop, 1) := by decide +kernel
theorem d1_6 : decode prog_3_method_4_code 6 = .ok (.aload_n 1, 1) := by decide +kernel
theorem d1_7 : decode prog_3_method_4_code 7 = .ok (.invokevirtual 45, 3) := by decide +kernel
theorem d1_10 : decode prog_3_method_4_code 10 = .ok (.ifCond .ne 19, 3) := by decide +kernel
theorem d1_13 : decode prog_3_method_4_code 13 = .ok (.aload_n 1, 1) := by decide +kernel
theorem d1_14 : decode prog_3_method_4_code 14 = .ok (.invokevirtual 49, 3) := by decide +kernel
theorem d1_17 : decode prog_3_method_4_code 17 = .ok (.bipush 64, 2) := by decide +kernel
theorem d1_19 : decode prog_3_method_4_code 19 = .ok (.if_icmp .gt 10, 3) := by decide +kernel
theorem d1_22 : decode prog_3_method_4_code 22 = .ok (.aload_n 1, 1) := by decide +kernel
theorem d1_23 : decode prog_3_method_4_code 23 = .ok (.invokestatic 52, 3) := by decide +kernel
theorem d1_26 : decode prog_3_method_4_code 26 = .ok (.ifCond .ne 32, 3) := by decide +kernel
theorem d1_58 : decode prog_3_method_4_code 58 = .ok (.aload_n 1, 1) := by decide +kernel
theorem d1_59 : decode prog_3_method_4_code 59 = .ok (.areturn, 1) := by decide +kernel
theorem pd1 : parseMethodDescriptor "(Ljava/lang/String;Ljava/lang/String;)Ljava/lang/String;" = some ⟨[(.object "java/lang/String"), (.object "java/lang/String")], (some (.object "java/lang/String"))⟩ := by decide +kernel
theorem pn1 : plainFor y1 = true := by first | exact plainFor_of_name (by first | (simp [plainName, overriddenIn]; done) | decide +kernel) | decide +kernel | rfl
set_option maxRecDepth 65536 in
set_option maxHeartbeats 40000000 in
theorem con_chTok (l : Launch) (Z : State) (a0 : Array Value) (hw : ∀ d ∈ tables_1, d.before a0 Z = true) (h0 : Heap) (n0 : Nat) (σ : Sg) (pt s : Addr) (cs : List Int32) (S : Str Z h0 s cs) (hne : ¬ cs = []) (ht : ∀ c ∈ cs, TokC c) (cz : Int32) (hcz : ¬ cz = 0) (O2 : Sta Z Z.heap "java/lang/String" "COMPACT_STRINGS" "Z" (.int cz)) (fm : Value) (rf : fm.isRef = true) (O4 : Sta Z Z.heap "jdk/internal/util/Preconditions" "SIOOBE_FORMATTER" "Ljava/util/function/BiFunction;" fm) :
    Con l Z y1 prog_3_method_4_code 2 ((some (.object "java/lang/String"))) ({ frames := 5, cells := 0, slots := 0, locals := 80 } : Room) [] #[(.ref pt), (.ref s)] σ h0 n0 (fun v h τ => h0 = h ∧ σ = τ ∧ v = some (.ref s)) := by
  refine Con.of_go pn1 (ls := #[.val (.ref pt), .val (.ref s)]) (fun m => by first | (simp [entryFrame, mkF, argsToLocals, Value.category]; done) | rfl) ?_
  intro κ D
  have hl := S.2.2
  refine Go.aloadN D (pc' := 1) d1_0 rfl rfl rfl ?_
  refine Go.aloadN D (pc' := 2) d1_1 rfl rfl rfl ?_
  refine Go.callS D (argsL := [(.ref s), (.ref pt)]) (rest := []) (pc' := 5) (ce' := 0) (sl' := 0) (con_rnn l Z a0 hw h0 n0 σ s pt) (hw _ (List.mem_of_getElem? (i := 13) rfl)) (hw _ (List.mem_of_getElem? (i := 14) rfl)) (hw _ (List.mem_of_getElem? (i := 15) rfl)) (hw _ (List.mem_of_getElem? (i := 16) rfl)) (by decide) d1_2 rfl pd2 rfl rfl rfl (by decide) (W := 0) rfl (by decide) (by decide) (by decide) (by decide) (by decide) ?_
  intro v2 h2 σ2 q2
  obtain ⟨rfl, rfl, rfl⟩ := q2
  show Go κ σ h0 0 0 5 #[.val (.ref pt), .val (.ref s)] [(.ref s)]
  refine Go.pop D (pc' := 6) d1_5 rfl rfl ?_
  refine Go.aloadN D (pc' := 7) d1_6 rfl rfl rfl ?_
  refine Go.callV D (argsL := []) (rest := []) (pc' := 10) (ce' := 0) (sl' := 0) (con_sempty l Z a0 hw h0 n0 σ s cs S) (hw _ (List.mem_of_getElem? (i := 17) rfl)) (hw _ (List.mem_of_getElem? (i := 18) rfl)) (hw _ (List.mem_of_getElem? (i := 20) rfl)) (hw _ (List.mem_of_getElem? (i := 19) rfl)) (hw _ (List.mem_of_getElem? (i := 1) rfl)) (hw _ (List.mem_of_getElem? (i := 21) rfl)) (nfS (hw _ (List.mem_of_getElem? (i := 20) rfl))) (by decide) S.1.1 d1_7 rfl pd3 rfl rfl rfl (by decide) (W := 0) rfl (by decide) (by decide) (by decide) (by decide) (by decide) ?_
  intro v7 h7 σ7 q7
  obtain ⟨rfl, rfl, r, rfl, hr⟩ := q7
  obtain rfl : r = 0 := hr.elim (fun z => absurd z.2 hne) (fun z => z.1)
  show Go κ σ h0 0 0 10 #[.val (.ref pt), .val (.ref s)] [(.int (0 : Int32))]
  refine Go.ifc D (pc' := 29) (pc2 := 13) d1_10 (by decide) (by decide) rfl (fun (hc : ¬ (0 : Int32) = 0) => absurd hc (by decide)) (fun _ => ?_)
  refine Go.aloadN D (pc' := 14) d1_13 rfl rfl rfl ?_
  refine Go.callV D (argsL := []) (rest := []) (pc' := 17) (ce' := 0) (sl' := 0) (con_slen l Z a0 hw h0 n0 σ s cs S cz hcz O2) (hw _ (List.mem_of_getElem? (i := 23) rfl)) (hw _ (List.mem_of_getElem? (i := 24) rfl)) (hw _ (List.mem_of_getElem? (i := 26) rfl)) (hw _ (List.mem_of_getElem? (i := 25) rfl)) (hw _ (List.mem_of_getElem? (i := 1) rfl)) (hw _ (List.mem_of_getElem? (i := 27) rfl)) (nfS (hw _ (List.mem_of_getElem? (i := 26) rfl))) (by decide) S.1.1 d1_14 rfl pd4 rfl rfl rfl (by decide) (W := 0) rfl (by decide) (by decide) (by decide) (by decide) (by decide) ?_
  intro v14 h14 σ14 q14
  obtain ⟨rfl, rfl, rfl⟩ := q14
  show Go κ σ h0 0 0 17 #[.val (.ref pt), .val (.ref s)] [(.int (Int32.ofNat cs.length))]
  refine Go.bipush D (pc' := 19) d1_17 rfl (v := (64 : Int32)) rfl ?_
  refine Go.icmp D (pc' := 29) (pc2 := 22) d1_19 (by decide) (by decide) rfl ?_ ?_
  · intro (hc19 : (64 : Int32) < (Int32.ofNat cs.length))
    exact absurd ((own_lt (i := 64) (by omega) (by omega)).mp hc19) (by omega)
  · intro (hc19 : ¬ (64 : Int32) < (Int32.ofNat cs.length))
    refine Go.aloadN D (pc' := 23) d1_22 rfl rfl rfl ?_
    refine Go.callS D (argsL := [(.ref s)]) (rest := []) (pc' := 26) (ce' := 0) (sl' := 0) (con_isTok l Z a0 hw h0 n0 σ s cs S ht cz hcz O2 fm rf O4) (hw _ (List.mem_of_getElem? (i := 35) rfl)) (hw _ (List.mem_of_getElem? (i := 36) rfl)) (hw _ (List.mem_of_getElem? (i := 11) rfl)) (hw _ (List.mem_of_getElem? (i := 37) rfl)) (by decide) d1_23 rfl pd6 rfl rfl rfl (by decide) (W := 0) rfl (by decide) (by decide) (by decide) (by decide) (by decide) ?_
    intro v23 h23 σ23 q23
    obtain ⟨rfl, rfl, rfl⟩ := q23
    show Go κ σ h0 0 0 26 #[.val (.ref pt), .val (.ref s)] [(.int (1 : Int32))]
    refine Go.ifc D (pc' := 58) (pc2 := 29) d1_26 (by decide) (by decide) rfl (fun _ => ?_) (fun (hc : (1 : Int32) = 0) => absurd hc (by decide))
    refine Go.aloadN D (pc' := 59) d1_58 rfl rfl rfl ?_
    refine Go.aret D rfl rfl rfl d1_59 (by decide) (by decide) ?_
    exact ⟨rfl, rfl, rfl⟩
abbrev y13 : MethodName := ⟨"com/example/ticks_into_totals/ticksintototals/CounterNameCheckTokenPinLaw", "tokenChar", "(I)C"⟩
theorem d13_0 : decode method_2_code 0 = .ok (.iload_n 0, 1) := by decide +kernel
theorem d13_1 : decode method_2_code 1 = .ok (.ldc 7, 2) := by decide +kernel
theorem d13_3 : decode method_2_code 3 = .ok (.iand, 1) := by decide +kernel
theorem d13_4 : decode method_2_code 4 = .ok (.bipush 65, 2) := by decide +kernel
theorem d13_6 : decode method_2_code 6 = .ok (.irem, 1) := by decide +kernel
theorem d13_7 : decode method_2_code 7 = .ok (.istore_n 1, 1) := by decide +kernel
theorem d13_8 : decode method_2_code 8 = .ok (.iload_n 1, 1) := by decide +kernel
theorem d13_9 : decode method_2_code 9 = .ok (.bipush 26, 2) := by decide +kernel
theorem d13_11 : decode method_2_code 11 = .ok (.if_icmp .ge 9, 3) := by decide +kernel
theorem d13_14 : decode method_2_code 14 = .ok (.bipush 65, 2) := by decide +kernel
theorem d13_16 : decode method_2_code 16 = .ok (.iload_n 1, 1) := by decide +kernel
theorem d13_17 : decode method_2_code 17 = .ok (.iadd, 1) := by decide +kernel
theorem d13_18 : decode method_2_code 18 = .ok (.i2c, 1) := by decide +kernel
theorem d13_19 : decode method_2_code 19 = .ok (.ireturn, 1) := by decide +kernel
theorem d13_20 : decode method_2_code 20 = .ok (.iload_n 1, 1) := by decide +kernel
theorem d13_21 : decode method_2_code 21 = .ok (.bipush 52, 2) := by decide +kernel
theorem d13_23 : decode method_2_code 23 = .ok (.if_icmp .ge 12, 3) := by decide +kernel
theorem d13_26 : decode method_2_code 26 = .ok (.bipush 97, 2) := by decide +kernel
theorem d13_28 : decode method_2_code 28 = .ok (.iload_n 1, 1) := by decide +kernel
theorem d13_29 : decode method_2_code 29 = .ok (.bipush 26, 2) := by decide +kernel
theorem d13_31 : decode method_2_code 31 = .ok (.isub, 1) := by decide +kernel
theorem d13_32 : decode method_2_code 32 = .ok (.iadd, 1) := by decide +kernel
theorem d13_33 : decode method_2_code 33 = .ok (.i2c, 1) := by decide +kernel
theorem d13_34 : decode method_2_code 34 = .ok (.ireturn, 1) := by decide +kernel
theorem d13_35 : decode method_2_code 35 = .ok (.iload_n 1, 1) := by decide +kernel
theorem d13_36 : decode method_2_code 36 = .ok (.bipush 62, 2) := by decide +kernel
theorem d13_38 : decode method_2_code 38 = .ok (.if_icmp .ge 12, 3) := by decide +kernel
theorem d13_41 : decode method_2_code 41 = .ok (.bipush 48, 2) := by decide +kernel
theorem d13_43 : decode method_2_code 43 = .ok (.iload_n 1, 1) := by decide +kernel
theorem d13_44 : decode method_2_code 44 = .ok (.bipush 52, 2) := by decide +kernel
theorem d13_46 : decode method_2_code 46 = .ok (.isub, 1) := by decide +kernel
theorem d13_47 : decode method_2_code 47 = .ok (.iadd, 1) := by decide +kernel
theorem d13_48 : decode method_2_code 48 = .ok (.i2c, 1) := by decide +kernel
theorem d13_49 : decode method_2_code 49 = .ok (.ireturn, 1) := by decide +kernel
theorem d13_50 : decode method_2_code 50 = .ok (.iload_n 1, 1) := by decide +kernel
theorem d13_51 : decode method_2_code 51 = .ok (.bipush 62, 2) := by decide +kernel
theorem d13_53 : decode method_2_code 53 = .ok (.if_icmp .ne 6, 3) := by decide +kernel
theorem d13_56 : decode method_2_code 56 = .ok (.bipush 95, 2) := by decide +kernel
theorem d13_58 : decode method_2_code 58 = .ok (.ireturn, 1) := by decide +kernel
theorem d13_59 : decode method_2_code 59 = .ok (.iload_n 1, 1) := by decide +kernel
theorem d13_60 : decode method_2_code 60 = .ok (.bipush 63, 2) := by decide +kernel
theorem d13_62 : decode method_2_code 62 = .ok (.if_icmp .ne 6, 3) := by decide +kernel
theorem d13_65 : decode method_2_code 65 = .ok (.bipush 46, 2) := by decide +kernel
theorem d13_67 : decode method_2_code 67 = .ok (.ireturn, 1) := by decide +kernel
theorem d13_68 : decode method_2_code 68 = .ok (.bipush 45, 2) := by decide +kernel
theorem d13_70 : decode method_2_code 70 = .ok (.ireturn, 1) := by decide +kernel
theorem pd13 : parseMethodDescriptor "(I)C" = some ⟨[.int], (some .char)⟩ := by decide +kernel
theorem pn13 : plainFor y13 = true := by first | exact plainFor_of_name (by first | (simp [plainName, overriddenIn]; done) | decide +kernel) | decide +kernel | rfl
set_option maxRecDepth 65536 in
set_option maxHeartbeats 40000000 in
theorem con_tok (l : Launch) (Z : State) (a0 : Array Value) (hw : ∀ d ∈ tables_1, d.before a0 Z = true) (h0 : Heap) (n0 : Nat) (σ : Sg) (x : Int32) :
    Con l Z y13 method_2_code 2 ((some .char)) ({ frames := 0, cells := 0, slots := 0, locals := 0 } : Room) [] #[(.int x)] σ h0 n0 (fun v h τ => h0 = h ∧ σ = τ ∧ ∃ r, v = some (.int r) ∧ TokC r) := by
  refine Con.of_go pn13 (ls := #[.val (.int x), .unset]) (fun m => by first | (simp [entryFrame, mkF, argsToLocals, Value.category]; done) | rfl) ?_
  intro κ D
  refine Go.iloadN D (pc' := 1) d13_0 rfl rfl ?_
  refine Go.ldcInt D (pc' := 3) (hw _ (List.mem_of_getElem? (i := 68) rfl)) d13_1 rfl ?_
  refine Go.iand D (pc' := 4) d13_3 rfl  ?_
  refine Go.bipush D (pc' := 6) d13_4 rfl (v := (65 : Int32)) rfl ?_
  refine Go.irem D (pc' := 7) d13_6 rfl (by decide) ?_
  have b1 := c_and x 2147483647 (by decide)
  have b2 := (c_irem (x &&& 2147483647) 65 65 rfl).1 b1.1
  obtain ⟨k, hk⟩ : ∃ k, k = ((x &&& (2147483647 : Int32)) % (65 : Int32)) := ⟨_, rfl⟩
  rw [← hk]
  have b3 : k.toInt = (x &&& 2147483647).toInt % 65 := by rw [hk]; exact b2
  refine Go.istoreN D (pc' := 8) d13_7 rfl (ls' := #[.val (.int x), .val (.int k)]) rfl ?_
  refine Go.iloadN D (pc' := 9) d13_8 rfl rfl ?_
  refine Go.bipush D (pc' := 11) d13_9 rfl (v := (26 : Int32)) rfl ?_
  refine Go.icmp D (pc' := 20) (pc2 := 14) d13_11 (by decide) (by decide) rfl ?_ ?_
  · intro (hc11 : ¬ k < (26 : Int32))
    refine Go.iloadN D (pc' := 21) d13_20 rfl rfl ?_
    refine Go.bipush D (pc' := 23) d13_21 rfl (v := (52 : Int32)) rfl ?_
    refine Go.icmp D (pc' := 35) (pc2 := 26) d13_23 (by decide) (by decide) rfl ?_ ?_
    · intro (hc23 : ¬ k < (52 : Int32))
      refine Go.iloadN D (pc' := 36) d13_35 rfl rfl ?_
      refine Go.bipush D (pc' := 38) d13_36 rfl (v := (62 : Int32)) rfl ?_
      refine Go.icmp D (pc' := 50) (pc2 := 41) d13_38 (by decide) (by decide) rfl ?_ ?_
      · intro (hc38 : ¬ k < (62 : Int32))
        refine Go.iloadN D (pc' := 51) d13_50 rfl rfl ?_
        refine Go.bipush D (pc' := 53) d13_51 rfl (v := (62 : Int32)) rfl ?_
        refine Go.icmp D (pc' := 59) (pc2 := 56) d13_53 (by decide) (by decide) rfl ?_ ?_
        · intro (hc53 : ¬ k = (62 : Int32))
          refine Go.iloadN D (pc' := 60) d13_59 rfl rfl ?_
          refine Go.bipush D (pc' := 62) d13_60 rfl (v := (63 : Int32)) rfl ?_
          refine Go.icmp D (pc' := 68) (pc2 := 65) d13_62 (by decide) (by decide) rfl ?_ ?_
          · intro (hc62 : ¬ k = (63 : Int32))
            refine Go.bipush D (pc' := 70) d13_68 rfl (v := (45 : Int32)) rfl ?_
            refine Go.cret D rfl rfl d13_70 (by decide) (by decide) ?_
            exact ⟨rfl, rfl, _, rfl, by unfold TokC; decide⟩
          · intro (hc62 : k = (63 : Int32))
            refine Go.bipush D (pc' := 67) d13_65 rfl (v := (46 : Int32)) rfl ?_
            refine Go.cret D rfl rfl d13_67 (by decide) (by decide) ?_
            exact ⟨rfl, rfl, _, rfl, by unfold TokC; decide⟩
        · intro (hc53 : k = (62 : Int32))
          refine Go.bipush D (pc' := 58) d13_56 rfl (v := (95 : Int32)) rfl ?_
          refine Go.cret D rfl rfl d13_58 (by decide) (by decide) ?_
          exact ⟨rfl, rfl, _, rfl, by unfold TokC; decide⟩
      · intro (hc38 : k < (62 : Int32))
        refine Go.bipush D (pc' := 43) d13_41 rfl (v := (48 : Int32)) rfl ?_
        refine Go.iloadN D (pc' := 44) d13_43 rfl rfl ?_
        refine Go.bipush D (pc' := 46) d13_44 rfl (v := (52 : Int32)) rfl ?_
        refine Go.isub D (pc' := 47) d13_46 rfl  ?_
        refine Go.iadd D (pc' := 48) d13_47 rfl  ?_
        refine Go.i2c D (pc' := 49) d13_48 rfl  ?_
        have a0' := c_isub k 52
        have a0'' := rng32 (k - 52)
        have t1 : TokC ((48 : Int32) + (k - (52 : Int32))) := by
          unfold TokC
          have a1 := And.intro (c_iadd 48 (k - 52)) (And.intro a0' a0'')
          have a2 := rng32 ((48 : Int32) + (k - (52 : Int32)))
          simp only [Int32.lt_iff_toInt_lt, ← Int32.toInt_inj, show (0 : Int32).toInt = 0 from rfl, show (26 : Int32).toInt = 26 from rfl, show (45 : Int32).toInt = 45 from rfl, show (46 : Int32).toInt = 46 from rfl, show (48 : Int32).toInt = 48 from rfl, show (52 : Int32).toInt = 52 from rfl, show (57 : Int32).toInt = 57 from rfl, show (62 : Int32).toInt = 62 from rfl, show (63 : Int32).toInt = 63 from rfl, show (65 : Int32).toInt = 65 from rfl, show (90 : Int32).toInt = 90 from rfl, show (95 : Int32).toInt = 95 from rfl, show (97 : Int32).toInt = 97 from rfl, show (122 : Int32).toInt = 122 from rfl, show (256 : Int32).toInt = 256 from rfl] at hc11 hc23 hc38 a1 a2 ⊢
          omega
        rw [char_nar t1.lat]
        refine Go.cret D rfl (congrArg Value.int (char_nar t1.lat)) d13_49 (by decide) (by decide) ?_
        exact ⟨rfl, rfl, _, rfl, t1⟩
    · intro (hc23 : k < (52 : Int32))
      refine Go.bipush D (pc' := 28) d13_26 rfl (v := (97 : Int32)) rfl ?_
      refine Go.iloadN D (pc' := 29) d13_28 rfl rfl ?_
      refine Go.bipush D (pc' := 31) d13_29 rfl (v := (26 : Int32)) rfl ?_
      refine Go.isub D (pc' := 32) d13_31 rfl  ?_
      refine Go.iadd D (pc' := 33) d13_32 rfl  ?_
      refine Go.i2c D (pc' := 34) d13_33 rfl  ?_
      have a0' := c_isub k 26
      have a0'' := rng32 (k - 26)
      have t1 : TokC ((97 : Int32) + (k - (26 : Int32))) := by
        unfold TokC
        have a1 := And.intro (c_iadd 97 (k - 26)) (And.intro a0' a0'')
        have a2 := rng32 ((97 : Int32) + (k - (26 : Int32)))
        simp only [Int32.lt_iff_toInt_lt, ← Int32.toInt_inj, show (0 : Int32).toInt = 0 from rfl, show (26 : Int32).toInt = 26 from rfl, show (45 : Int32).toInt = 45 from rfl, show (46 : Int32).toInt = 46 from rfl, show (48 : Int32).toInt = 48 from rfl, show (52 : Int32).toInt = 52 from rfl, show (57 : Int32).toInt = 57 from rfl, show (62 : Int32).toInt = 62 from rfl, show (63 : Int32).toInt = 63 from rfl, show (65 : Int32).toInt = 65 from rfl, show (90 : Int32).toInt = 90 from rfl, show (95 : Int32).toInt = 95 from rfl, show (97 : Int32).toInt = 97 from rfl, show (122 : Int32).toInt = 122 from rfl, show (256 : Int32).toInt = 256 from rfl] at hc11 hc23 a1 a2 ⊢
        omega
      rw [char_nar t1.lat]
      refine Go.cret D rfl (congrArg Value.int (char_nar t1.lat)) d13_34 (by decide) (by decide) ?_
      exact ⟨rfl, rfl, _, rfl, t1⟩
  · intro (hc11 : k < (26 : Int32))
    refine Go.bipush D (pc' := 16) d13_14 rfl (v := (65 : Int32)) rfl ?_
    refine Go.iloadN D (pc' := 17) d13_16 rfl rfl ?_
    refine Go.iadd D (pc' := 18) d13_17 rfl  ?_
    refine Go.i2c D (pc' := 19) d13_18 rfl  ?_
    have t1 : TokC ((65 : Int32) + k) := by
      unfold TokC
      have a1 := c_iadd 65 k
      have a2 := rng32 ((65 : Int32) + k)
      simp only [Int32.lt_iff_toInt_lt, ← Int32.toInt_inj, show (0 : Int32).toInt = 0 from rfl, show (26 : Int32).toInt = 26 from rfl, show (45 : Int32).toInt = 45 from rfl, show (46 : Int32).toInt = 46 from rfl, show (48 : Int32).toInt = 48 from rfl, show (52 : Int32).toInt = 52 from rfl, show (57 : Int32).toInt = 57 from rfl, show (62 : Int32).toInt = 62 from rfl, show (63 : Int32).toInt = 63 from rfl, show (65 : Int32).toInt = 65 from rfl, show (90 : Int32).toInt = 90 from rfl, show (95 : Int32).toInt = 95 from rfl, show (97 : Int32).toInt = 97 from rfl, show (122 : Int32).toInt = 122 from rfl, show (256 : Int32).toInt = 256 from rfl] at hc11 a1 a2 ⊢
      omega
    rw [char_nar t1.lat]
    refine Go.cret D rfl (congrArg Value.int (char_nar t1.lat)) d13_19 (by decide) (by decide) ?_
    exact ⟨rfl, rfl, _, rfl, t1⟩
theorem and3 (x : Int32) : (x &&& 3) = 0 ∨ (x &&& 3) = 1 ∨ (x &&& 3) = 2 ∨ (x &&& 3) = 3 := by
  have h := c_and x 3 (by decide)
  simp only [← Int32.toInt_inj, show (0 : Int32).toInt = 0 from rfl, show (1 : Int32).toInt = 1 from rfl, show (2 : Int32).toInt = 2 from rfl, show (3 : Int32).toInt = 3 from rfl] at h ⊢
  omega
def bigC : List Int32 := [65, 66, 67, 68, 69, 70, 71, 72, 73, 74, 75, 76, 77, 78, 79, 80, 81, 82, 83, 84, 85, 86, 87, 88, 89, 90, 97, 98, 99, 100, 101, 102, 103, 104, 105, 106, 107, 108, 109, 110, 111, 112, 113, 114, 115, 116, 117, 118, 119, 120, 121, 122, 48, 49, 50, 51, 52, 53, 54, 55, 56, 57, 95, 45]
theorem big_tb : tb "ABCDEFGHIJKLMNOPQRSTUVWXYZabcdefghijklmnopqrstuvwxyz0123456789_-" = bv bigC := by decide
theorem big_len : (tb "ABCDEFGHIJKLMNOPQRSTUVWXYZabcdefghijklmnopqrstuvwxyz0123456789_-").length = bigC.length := by decide
theorem big_tok : ∀ c ∈ bigC, TokC c := by unfold TokC; decide
theorem big_lat : Lat bigC := ⟨fun c hc => (big_tok c hc).lat, by decide⟩

theorem pd0 : parseMethodDescriptor "(IIIII)Z" = some ⟨[.int, .int, .int, .int, .int], (some .boolean)⟩ := by decide +kernel
theorem pn0 : plainFor x = true := by first | exact plainFor_of_name (by first | (simp [plainName, overriddenIn]; done) | decide +kernel) | decide +kernel | rfl
set_option maxRecDepth 65536 in
set_option maxHeartbeats 40000000 in
theorem con_law (l : Launch) (Z : State) (a0 : Array Value) (hw : ∀ d ∈ tables_1, d.before a0 Z = true) (h0 : Heap) (n0 : Nat) (Z0 : n0 ≤ h0.size) (hcw : Jvm.Lit.compactW.before a0 Z = true) (cz : Int32) (hcz : ¬ cz = 0) (O2 : Sta Z Z.heap "java/lang/String" "COMPACT_STRINGS" "Z" (.int cz)) (fm : Value) (rf : fm.isRef = true) (O4 : Sta Z Z.heap "jdk/internal/util/Preconditions" "SIOOBE_FORMATTER" "Ljava/util/function/BiFunction;" fm) (hh1 : Jvm.Lit.constHeld Z "com/example/ticks_into_totals/ticksintototals/CounterNameCheckTokenPinLaw" 8) (hh2 : Jvm.Lit.constHeld Z "com/example/ticks_into_totals/ticksintototals/CounterNameCheckTokenPinLaw" 10) (hh3 : Jvm.Lit.constHeld Z "com/example/ticks_into_totals/ticksintototals/CounterNameCheckTokenPinLaw" 12) (a x0 x1 x2 x3 : Int32) :
    Con l Z x code maxLocals ret room_1 tables_1 #[(.int a), (.int x0), (.int x1), (.int x2), (.int x3)] (some []) h0 n0 (fun v h τ => v = some (.int 1)) := by
  refine Con.of_go pn0 (ls := #[.val (.int a), .val (.int x0), .val (.int x1), .val (.int x2), .val (.int x3), .unset, .unset, .unset, .unset]) (fun m => by first | (simp [entryFrame, mkF, argsToLocals, Value.category, maxLocals]; done) | rfl) ?_
  intro κ D
  have J17 : ∀ (h1 : Heap) (pt : Addr) (L1 : List (String × Nat × String × Addr)), Ext h0 h1 → CsOk CS Z h1 L1 → Go κ (some L1) h1 2 24 17 #[.val (.int a), .val (.int x0), .val (.int x1), .val (.int x2), .val (.int x3), .val (.ref pt), .unset, .unset, .unset] [] := by
    intro h1 pt L1 E1 K1
    have z1 : n0 ≤ h1.size := Nat.le_trans Z0 E1.1
    refine Go.iloadN D (pc' := 18) at_17 rfl rfl ?_
    refine Go.iconst D (pc' := 19) at_18 rfl (v := (2 : Int32)) rfl ?_
    refine Go.ishr D (pc' := 20) at_19 rfl  ?_
    refine Go.bipush D (pc' := 22) at_20 rfl (v := (7 : Int32)) rfl ?_
    refine Go.iand D (pc' := 23) at_22 rfl  ?_
    refine Go.ifc D (pc' := 33) (pc2 := 26) at_23 (by decide) (by decide) rfl ?_ ?_
    · intro (hc23 : ¬ ((a >>> ((2 : Int32) &&& 31)) &&& (7 : Int32)) = 0)
      refine Go.iconst D (pc' := 34) at_33 rfl (v := (1 : Int32)) rfl ?_
      refine Go.iloadN D (pc' := 35) at_34 rfl rfl ?_
      refine Go.iconst D (pc' := 36) at_35 rfl (v := (3 : Int32)) rfl ?_
      refine Go.iand D (pc' := 37) at_36 rfl  ?_
      refine Go.iadd D (pc' := 38) at_37 rfl  ?_
      refine Go.istore D (pc' := 40) at_38 rfl (ls' := #[.val (.int a), .val (.int x0), .val (.int x1), .val (.int x2), .val (.int x3), .val (.ref pt), .unset, .val (.int ((1 : Int32) + (a &&& (3 : Int32)))), .unset]) rfl ?_
      rcases and3 a with e | e | e | e
      · skip
        rw [e]
        show Go κ (some L1) h1 2 24 40 #[.val (.int a), .val (.int x0), .val (.int x1), .val (.int x2), .val (.int x3), .val (.ref pt), .unset, .val (.int (1 : Int32)), .unset] []
        refine Go.iload D (pc' := 42) at_40 rfl rfl ?_
        refine Go.newP D (pc' := 44) (aty := .char) (cap := 1) (ce' := 3) (sl' := 25) (hw _ (List.mem_of_getElem? (i := 63) rfl)) at_42 rfl (by decide) (by decide) (by decide) rfl rfl (by decide) (by decide) ?_
        intro h42 ar ka gar E42 A42
        have y42 := E42.1
        refine Go.astore D (pc' := 46) at_44 rfl rfl (ls' := #[.val (.int a), .val (.int x0), .val (.int x1), .val (.int x2), .val (.int x3), .val (.ref pt), .unset, .val (.int (1 : Int32)), .val (.ref ar)]) rfl ?_
        refine Go.aload D (pc' := 48) at_46 rfl rfl rfl ?_
        refine Go.iconst D (pc' := 49) at_48 rfl (v := (0 : Int32)) rfl ?_
        refine Go.iloadN D (pc' := 50) at_49 rfl rfl ?_
        refine Go.callS D (argsL := [(.int x0)]) (rest := [(.int (0 : Int32)), (.ref ar)]) (pc' := 53) (ce' := 3) (sl' := 25) (con_tok l Z a0 hw h42 n0 (some L1) x0) (hw _ (List.mem_of_getElem? (i := 64) rfl)) (hw _ (List.mem_of_getElem? (i := 65) rfl)) (hw _ (List.mem_of_getElem? (i := 66) rfl)) (hw _ (List.mem_of_getElem? (i := 67) rfl)) (by decide) at_50 rfl pd13 rfl rfl rfl (by decide) (W := 2) rfl (by decide) (by decide) (by decide) (by decide) (by decide) ?_
        intro v50 h50 σ50 q50
        obtain ⟨rfl, rfl, r0, rfl, hr0⟩ := q50
        show Go κ (some L1) h42 3 25 53 #[.val (.int a), .val (.int x0), .val (.int x1), .val (.int x2), .val (.int x3), .val (.ref pt), .unset, .val (.int (1 : Int32)), .val (.ref ar)] [(.int r0), (.int (0 : Int32)), (.ref ar)]
        refine Go.castore D (pc' := 54) (i := 0) at_53 rfl (A42.pad (vs' := [.int 0]) (fun i => pad_rep [] (.int 0) 1 i)) (by decide) (by decide) rfl (by simp) (by omega) (char_nar hr0.lat) ?_
        intro h53 K53 A53
        have x53 := E42.keepN K53 (by omega)
        refine Go.iload D (pc' := 56) at_54 rfl rfl ?_
        refine Go.iconst D (pc' := 57) at_56 rfl (v := (1 : Int32)) rfl ?_
        refine Go.icmp D (pc' := 68) (pc2 := 60) at_57 (by decide) (by decide) rfl (fun _ => ?_) (fun (hc : (1 : Int32) < (1 : Int32)) => absurd hc (by decide))
        refine Go.iload D (pc' := 70) at_68 rfl rfl ?_
        refine Go.iconst D (pc' := 71) at_70 rfl (v := (2 : Int32)) rfl ?_
        refine Go.icmp D (pc' := 82) (pc2 := 74) at_71 (by decide) (by decide) rfl (fun _ => ?_) (fun (hc : (2 : Int32) < (1 : Int32)) => absurd hc (by decide))
        refine Go.iload D (pc' := 84) at_82 rfl rfl ?_
        refine Go.iconst D (pc' := 85) at_84 rfl (v := (3 : Int32)) rfl ?_
        refine Go.icmp D (pc' := 97) (pc2 := 88) at_85 (by decide) (by decide) rfl (fun _ => ?_) (fun (hc : (3 : Int32) < (1 : Int32)) => absurd hc (by decide))
        refine Go.newO D (pc' := 100) (ce' := 4) (sl' := 29) (hw _ (List.mem_of_getElem? (i := 69) rfl)) (hw _ (List.mem_of_getElem? (i := 2) rfl)) (hw _ (List.mem_of_getElem? (i := 1) rfl)) at_97 rfl rfl rfl (by decide) (by decide) ?_
        intro h97 s97 gs97 E97 X97 D97
        have V97 := D97 (Or.inr (hw _ (List.mem_of_getElem? (i := 4) rfl))) (ty := .array .byte) (by decide)
        have C97 := D97 (Or.inr (hw _ (List.mem_of_getElem? (i := 5) rfl))) (ty := .byte) (by decide)
        have e97 := x53.tr E97
        have y97 := x53.1
        have ee97 := e97.1
        refine Go.dup D (pc' := 101) at_100 rfl rfl ?_
        refine Go.aload D (pc' := 103) at_101 rfl rfl rfl ?_
        have ht : ∀ c ∈ [r0], TokC c := by
          intro c hc
          simp only [List.mem_cons, List.not_mem_nil, or_false] at hc
          rcases hc with rfl <;> assumption
        have hl : Lat [r0] := ⟨fun c hc => (ht c hc).lat, by simp⟩
        refine Go.callI D (argsL := [(.ref ar)]) (rest := [(.ref s97)]) (pc' := 106) (ce' := 5) (sl' := 93) (con_strN l Z a0 hw h97 n0 (by omega) (some L1) s97 ar ka [r0] (A53.ext E97) hl (by simp) cz hcz O2 (by omega) X97 V97 C97) rfl (hw _ (List.mem_of_getElem? (i := 70) rfl)) (hw _ (List.mem_of_getElem? (i := 71) rfl)) (hw _ (List.mem_of_getElem? (i := 1) rfl)) (hw _ (List.mem_of_getElem? (i := 72) rfl)) (by decide) at_103 rfl pd14 rfl rfl rfl (by decide) (W := 1) rfl (by decide) (by decide) (by decide) (by decide) (by decide) ?_
        intro v103 h103 σ103 q103
        obtain ⟨rfl, rfl, kk, S103⟩ := q103
        show Go κ (some L1) h103 5 93 106 #[.val (.int a), .val (.int x0), .val (.int x1), .val (.int x2), .val (.int x3), .val (.ref pt), .unset, .val (.int (1 : Int32)), .val (.ref ar)] [(.ref s97)]
        refine Go.astore D (pc' := 108) at_106 rfl rfl (ls' := #[.val (.int a), .val (.int x0), .val (.int x1), .val (.int x2), .val (.int x3), .val (.ref pt), .val (.ref s97), .val (.int (1 : Int32)), .val (.ref ar)]) rfl ?_
        refine Go.aload D (pc' := 110) at_108 rfl rfl rfl ?_
        refine Go.aload D (pc' := 112) at_110 rfl rfl rfl ?_
        refine Go.callS D (argsL := [(.ref pt), (.ref s97)]) (rest := []) (pc' := 115) (ce' := 5) (sl' := 93) (con_chTok l Z a0 hw h103 n0 (some L1) pt s97 [r0] S103 (by simp) ht cz hcz O2 fm rf O4) (hw _ (List.mem_of_getElem? (i := 9) rfl)) (hw _ (List.mem_of_getElem? (i := 10) rfl)) (hw _ (List.mem_of_getElem? (i := 11) rfl)) (hw _ (List.mem_of_getElem? (i := 12) rfl)) (by decide) at_112 rfl pd1 rfl rfl rfl (by decide) (W := 0) rfl (by decide) (by decide) (by decide) (by decide) (by decide) ?_
        intro v112 h112 σ112 q112
        obtain ⟨rfl, rfl, rfl⟩ := q112
        show Go κ (some L1) h103 5 93 115 #[.val (.int a), .val (.int x0), .val (.int x1), .val (.int x2), .val (.int x3), .val (.ref pt), .val (.ref s97), .val (.int (1 : Int32)), .val (.ref ar)] [(.ref s97)]
        refine Go.aload D (pc' := 117) at_115 rfl rfl rfl ?_
        refine Go.acmpNe D (pc' := 124) (pc2 := 120) rfl rfl at_117 (by decide) (by decide) rfl ?_ ?_
        · intro (hc117 : ¬ (.ref s97 : Value) = .ref s97)
          exact absurd rfl hc117
        · intro (hc117 : (.ref s97 : Value) = .ref s97)
          refine Go.iconst D (pc' := 121) at_120 rfl (v := (1 : Int32)) rfl ?_
          refine Go.goto D (pc' := 125) at_121 (by decide) (by decide) ?_
          refine Go.zret D rfl rfl at_125 (by decide) (by decide) ?_
          exact rfl
      · skip
        rw [e]
        show Go κ (some L1) h1 2 24 40 #[.val (.int a), .val (.int x0), .val (.int x1), .val (.int x2), .val (.int x3), .val (.ref pt), .unset, .val (.int (2 : Int32)), .unset] []
        refine Go.iload D (pc' := 42) at_40 rfl rfl ?_
        refine Go.newP D (pc' := 44) (aty := .char) (cap := 2) (ce' := 3) (sl' := 26) (hw _ (List.mem_of_getElem? (i := 63) rfl)) at_42 rfl (by decide) (by decide) (by decide) rfl rfl (by decide) (by decide) ?_
        intro h42 ar ka gar E42 A42
        have y42 := E42.1
        refine Go.astore D (pc' := 46) at_44 rfl rfl (ls' := #[.val (.int a), .val (.int x0), .val (.int x1), .val (.int x2), .val (.int x3), .val (.ref pt), .unset, .val (.int (2 : Int32)), .val (.ref ar)]) rfl ?_
        refine Go.aload D (pc' := 48) at_46 rfl rfl rfl ?_
        refine Go.iconst D (pc' := 49) at_48 rfl (v := (0 : Int32)) rfl ?_
        refine Go.iloadN D (pc' := 50) at_49 rfl rfl ?_
        refine Go.callS D (argsL := [(.int x0)]) (rest := [(.int (0 : Int32)), (.ref ar)]) (pc' := 53) (ce' := 3) (sl' := 26) (con_tok l Z a0 hw h42 n0 (some L1) x0) (hw _ (List.mem_of_getElem? (i := 64) rfl)) (hw _ (List.mem_of_getElem? (i := 65) rfl)) (hw _ (List.mem_of_getElem? (i := 66) rfl)) (hw _ (List.mem_of_getElem? (i := 67) rfl)) (by decide) at_50 rfl pd13 rfl rfl rfl (by decide) (W := 2) rfl (by decide) (by decide) (by decide) (by decide) (by decide) ?_
        intro v50 h50 σ50 q50
        obtain ⟨rfl, rfl, r0, rfl, hr0⟩ := q50
        show Go κ (some L1) h42 3 26 53 #[.val (.int a), .val (.int x0), .val (.int x1), .val (.int x2), .val (.int x3), .val (.ref pt), .unset, .val (.int (2 : Int32)), .val (.ref ar)] [(.int r0), (.int (0 : Int32)), (.ref ar)]
        refine Go.castore D (pc' := 54) (i := 0) at_53 rfl (A42.pad (vs' := [.int 0, .int 0]) (fun i => pad_rep [] (.int 0) 2 i)) (by decide) (by decide) rfl (by simp) (by omega) (char_nar hr0.lat) ?_
        intro h53 K53 A53
        have x53 := E42.keepN K53 (by omega)
        refine Go.iload D (pc' := 56) at_54 rfl rfl ?_
        refine Go.iconst D (pc' := 57) at_56 rfl (v := (1 : Int32)) rfl ?_
        refine Go.icmp D (pc' := 68) (pc2 := 60) at_57 (by decide) (by decide) rfl (fun (hc : ¬ (1 : Int32) < (2 : Int32)) => absurd hc (by decide)) (fun _ => ?_)
        refine Go.aload D (pc' := 62) at_60 rfl rfl rfl ?_
        refine Go.iconst D (pc' := 63) at_62 rfl (v := (1 : Int32)) rfl ?_
        refine Go.iloadN D (pc' := 64) at_63 rfl rfl ?_
        refine Go.callS D (argsL := [(.int x1)]) (rest := [(.int (1 : Int32)), (.ref ar)]) (pc' := 67) (ce' := 3) (sl' := 26) (con_tok l Z a0 hw h53 n0 (some L1) x1) (hw _ (List.mem_of_getElem? (i := 64) rfl)) (hw _ (List.mem_of_getElem? (i := 65) rfl)) (hw _ (List.mem_of_getElem? (i := 66) rfl)) (hw _ (List.mem_of_getElem? (i := 67) rfl)) (by decide) at_64 rfl pd13 rfl rfl rfl (by decide) (W := 2) rfl (by decide) (by decide) (by decide) (by decide) (by decide) ?_
        intro v64 h64 σ64 q64
        obtain ⟨rfl, rfl, r1, rfl, hr1⟩ := q64
        show Go κ (some L1) h53 3 26 67 #[.val (.int a), .val (.int x0), .val (.int x1), .val (.int x2), .val (.int x3), .val (.ref pt), .unset, .val (.int (2 : Int32)), .val (.ref ar)] [(.int r1), (.int (1 : Int32)), (.ref ar)]
        refine Go.castore D (pc' := 68) (i := 1) at_67 rfl A53 (by decide) (by decide) rfl (by simp) (by omega) (char_nar hr1.lat) ?_
        intro h67 K67 A67
        have x67 := x53.keepN K67 (by omega)
        refine Go.iload D (pc' := 70) at_68 rfl rfl ?_
        refine Go.iconst D (pc' := 71) at_70 rfl (v := (2 : Int32)) rfl ?_
        refine Go.icmp D (pc' := 82) (pc2 := 74) at_71 (by decide) (by decide) rfl (fun _ => ?_) (fun (hc : (2 : Int32) < (2 : Int32)) => absurd hc (by decide))
        refine Go.iload D (pc' := 84) at_82 rfl rfl ?_
        refine Go.iconst D (pc' := 85) at_84 rfl (v := (3 : Int32)) rfl ?_
        refine Go.icmp D (pc' := 97) (pc2 := 88) at_85 (by decide) (by decide) rfl (fun _ => ?_) (fun (hc : (3 : Int32) < (2 : Int32)) => absurd hc (by decide))
        refine Go.newO D (pc' := 100) (ce' := 4) (sl' := 30) (hw _ (List.mem_of_getElem? (i := 69) rfl)) (hw _ (List.mem_of_getElem? (i := 2) rfl)) (hw _ (List.mem_of_getElem? (i := 1) rfl)) at_97 rfl rfl rfl (by decide) (by decide) ?_
        intro h97 s97 gs97 E97 X97 D97
        have V97 := D97 (Or.inr (hw _ (List.mem_of_getElem? (i := 4) rfl))) (ty := .array .byte) (by decide)
        have C97 := D97 (Or.inr (hw _ (List.mem_of_getElem? (i := 5) rfl))) (ty := .byte) (by decide)
        have e97 := x67.tr E97
        have y97 := x67.1
        have ee97 := e97.1
        refine Go.dup D (pc' := 101) at_100 rfl rfl ?_
        refine Go.aload D (pc' := 103) at_101 rfl rfl rfl ?_
        have ht : ∀ c ∈ [r0, r1], TokC c := by
          intro c hc
          simp only [List.mem_cons, List.not_mem_nil, or_false] at hc
          rcases hc with rfl | rfl <;> assumption
        have hl : Lat [r0, r1] := ⟨fun c hc => (ht c hc).lat, by simp⟩
        refine Go.callI D (argsL := [(.ref ar)]) (rest := [(.ref s97)]) (pc' := 106) (ce' := 5) (sl' := 94) (con_strN l Z a0 hw h97 n0 (by omega) (some L1) s97 ar ka [r0, r1] (A67.ext E97) hl (by simp) cz hcz O2 (by omega) X97 V97 C97) rfl (hw _ (List.mem_of_getElem? (i := 70) rfl)) (hw _ (List.mem_of_getElem? (i := 71) rfl)) (hw _ (List.mem_of_getElem? (i := 1) rfl)) (hw _ (List.mem_of_getElem? (i := 72) rfl)) (by decide) at_103 rfl pd14 rfl rfl rfl (by decide) (W := 1) rfl (by decide) (by decide) (by decide) (by decide) (by decide) ?_
        intro v103 h103 σ103 q103
        obtain ⟨rfl, rfl, kk, S103⟩ := q103
        show Go κ (some L1) h103 5 94 106 #[.val (.int a), .val (.int x0), .val (.int x1), .val (.int x2), .val (.int x3), .val (.ref pt), .unset, .val (.int (2 : Int32)), .val (.ref ar)] [(.ref s97)]
        refine Go.astore D (pc' := 108) at_106 rfl rfl (ls' := #[.val (.int a), .val (.int x0), .val (.int x1), .val (.int x2), .val (.int x3), .val (.ref pt), .val (.ref s97), .val (.int (2 : Int32)), .val (.ref ar)]) rfl ?_
        refine Go.aload D (pc' := 110) at_108 rfl rfl rfl ?_
        refine Go.aload D (pc' := 112) at_110 rfl rfl rfl ?_
        refine Go.callS D (argsL := [(.ref pt), (.ref s97)]) (rest := []) (pc' := 115) (ce' := 5) (sl' := 94) (con_chTok l Z a0 hw h103 n0 (some L1) pt s97 [r0, r1] S103 (by simp) ht cz hcz O2 fm rf O4) (hw _ (List.mem_of_getElem? (i := 9) rfl)) (hw _ (List.mem_of_getElem? (i := 10) rfl)) (hw _ (List.mem_of_getElem? (i := 11) rfl)) (hw _ (List.mem_of_getElem? (i := 12) rfl)) (by decide) at_112 rfl pd1 rfl rfl rfl (by decide) (W := 0) rfl (by decide) (by decide) (by decide) (by decide) (by decide) ?_
        intro v112 h112 σ112 q112
        obtain ⟨rfl, rfl, rfl⟩ := q112
        show Go κ (some L1) h103 5 94 115 #[.val (.int a), .val (.int x0), .val (.int x1), .val (.int x2), .val (.int x3), .val (.ref pt), .val (.ref s97), .val (.int (2 : Int32)), .val (.ref ar)] [(.ref s97)]
        refine Go.aload D (pc' := 117) at_115 rfl rfl rfl ?_
        refine Go.acmpNe D (pc' := 124) (pc2 := 120) rfl rfl at_117 (by decide) (by decide) rfl ?_ ?_
        · intro (hc117 : ¬ (.ref s97 : Value) = .ref s97)
          exact absurd rfl hc117
        · intro (hc117 : (.ref s97 : Value) = .ref s97)
          refine Go.iconst D (pc' := 121) at_120 rfl (v := (1 : Int32)) rfl ?_
          refine Go.goto D (pc' := 125) at_121 (by decide) (by decide) ?_
          refine Go.zret D rfl rfl at_125 (by decide) (by decide) ?_
          exact rfl
      · skip
        rw [e]
        show Go κ (some L1) h1 2 24 40 #[.val (.int a), .val (.int x0), .val (.int x1), .val (.int x2), .val (.int x3), .val (.ref pt), .unset, .val (.int (3 : Int32)), .unset] []
        refine Go.iload D (pc' := 42) at_40 rfl rfl ?_
        refine Go.newP D (pc' := 44) (aty := .char) (cap := 3) (ce' := 3) (sl' := 27) (hw _ (List.mem_of_getElem? (i := 63) rfl)) at_42 rfl (by decide) (by decide) (by decide) rfl rfl (by decide) (by decide) ?_
        intro h42 ar ka gar E42 A42
        have y42 := E42.1
        refine Go.astore D (pc' := 46) at_44 rfl rfl (ls' := #[.val (.int a), .val (.int x0), .val (.int x1), .val (.int x2), .val (.int x3), .val (.ref pt), .unset, .val (.int (3 : Int32)), .val (.ref ar)]) rfl ?_
        refine Go.aload D (pc' := 48) at_46 rfl rfl rfl ?_
        refine Go.iconst D (pc' := 49) at_48 rfl (v := (0 : Int32)) rfl ?_
        refine Go.iloadN D (pc' := 50) at_49 rfl rfl ?_
        refine Go.callS D (argsL := [(.int x0)]) (rest := [(.int (0 : Int32)), (.ref ar)]) (pc' := 53) (ce' := 3) (sl' := 27) (con_tok l Z a0 hw h42 n0 (some L1) x0) (hw _ (List.mem_of_getElem? (i := 64) rfl)) (hw _ (List.mem_of_getElem? (i := 65) rfl)) (hw _ (List.mem_of_getElem? (i := 66) rfl)) (hw _ (List.mem_of_getElem? (i := 67) rfl)) (by decide) at_50 rfl pd13 rfl rfl rfl (by decide) (W := 2) rfl (by decide) (by decide) (by decide) (by decide) (by decide) ?_
        intro v50 h50 σ50 q50
        obtain ⟨rfl, rfl, r0, rfl, hr0⟩ := q50
        show Go κ (some L1) h42 3 27 53 #[.val (.int a), .val (.int x0), .val (.int x1), .val (.int x2), .val (.int x3), .val (.ref pt), .unset, .val (.int (3 : Int32)), .val (.ref ar)] [(.int r0), (.int (0 : Int32)), (.ref ar)]
        refine Go.castore D (pc' := 54) (i := 0) at_53 rfl (A42.pad (vs' := [.int 0, .int 0, .int 0]) (fun i => pad_rep [] (.int 0) 3 i)) (by decide) (by decide) rfl (by simp) (by omega) (char_nar hr0.lat) ?_
        intro h53 K53 A53
        have x53 := E42.keepN K53 (by omega)
        refine Go.iload D (pc' := 56) at_54 rfl rfl ?_
        refine Go.iconst D (pc' := 57) at_56 rfl (v := (1 : Int32)) rfl ?_
        refine Go.icmp D (pc' := 68) (pc2 := 60) at_57 (by decide) (by decide) rfl (fun (hc : ¬ (1 : Int32) < (3 : Int32)) => absurd hc (by decide)) (fun _ => ?_)
        refine Go.aload D (pc' := 62) at_60 rfl rfl rfl ?_
        refine Go.iconst D (pc' := 63) at_62 rfl (v := (1 : Int32)) rfl ?_
        refine Go.iloadN D (pc' := 64) at_63 rfl rfl ?_
        refine Go.callS D (argsL := [(.int x1)]) (rest := [(.int (1 : Int32)), (.ref ar)]) (pc' := 67) (ce' := 3) (sl' := 27) (con_tok l Z a0 hw h53 n0 (some L1) x1) (hw _ (List.mem_of_getElem? (i := 64) rfl)) (hw _ (List.mem_of_getElem? (i := 65) rfl)) (hw _ (List.mem_of_getElem? (i := 66) rfl)) (hw _ (List.mem_of_getElem? (i := 67) rfl)) (by decide) at_64 rfl pd13 rfl rfl rfl (by decide) (W := 2) rfl (by decide) (by decide) (by decide) (by decide) (by decide) ?_
        intro v64 h64 σ64 q64
        obtain ⟨rfl, rfl, r1, rfl, hr1⟩ := q64
        show Go κ (some L1) h53 3 27 67 #[.val (.int a), .val (.int x0), .val (.int x1), .val (.int x2), .val (.int x3), .val (.ref pt), .unset, .val (.int (3 : Int32)), .val (.ref ar)] [(.int r1), (.int (1 : Int32)), (.ref ar)]
        refine Go.castore D (pc' := 68) (i := 1) at_67 rfl A53 (by decide) (by decide) rfl (by simp) (by omega) (char_nar hr1.lat) ?_
        intro h67 K67 A67
        have x67 := x53.keepN K67 (by omega)
        refine Go.iload D (pc' := 70) at_68 rfl rfl ?_
        refine Go.iconst D (pc' := 71) at_70 rfl (v := (2 : Int32)) rfl ?_
        refine Go.icmp D (pc' := 82) (pc2 := 74) at_71 (by decide) (by decide) rfl (fun (hc : ¬ (2 : Int32) < (3 : Int32)) => absurd hc (by decide)) (fun _ => ?_)
        refine Go.aload D (pc' := 76) at_74 rfl rfl rfl ?_
        refine Go.iconst D (pc' := 77) at_76 rfl (v := (2 : Int32)) rfl ?_
        refine Go.iloadN D (pc' := 78) at_77 rfl rfl ?_
        refine Go.callS D (argsL := [(.int x2)]) (rest := [(.int (2 : Int32)), (.ref ar)]) (pc' := 81) (ce' := 3) (sl' := 27) (con_tok l Z a0 hw h67 n0 (some L1) x2) (hw _ (List.mem_of_getElem? (i := 64) rfl)) (hw _ (List.mem_of_getElem? (i := 65) rfl)) (hw _ (List.mem_of_getElem? (i := 66) rfl)) (hw _ (List.mem_of_getElem? (i := 67) rfl)) (by decide) at_78 rfl pd13 rfl rfl rfl (by decide) (W := 2) rfl (by decide) (by decide) (by decide) (by decide) (by decide) ?_
        intro v78 h78 σ78 q78
        obtain ⟨rfl, rfl, r2, rfl, hr2⟩ := q78
        show Go κ (some L1) h67 3 27 81 #[.val (.int a), .val (.int x0), .val (.int x1), .val (.int x2), .val (.int x3), .val (.ref pt), .unset, .val (.int (3 : Int32)), .val (.ref ar)] [(.int r2), (.int (2 : Int32)), (.ref ar)]
        refine Go.castore D (pc' := 82) (i := 2) at_81 rfl A67 (by decide) (by decide) rfl (by simp) (by omega) (char_nar hr2.lat) ?_
        intro h81 K81 A81
        have x81 := x67.keepN K81 (by omega)
        refine Go.iload D (pc' := 84) at_82 rfl rfl ?_
        refine Go.iconst D (pc' := 85) at_84 rfl (v := (3 : Int32)) rfl ?_
        refine Go.icmp D (pc' := 97) (pc2 := 88) at_85 (by decide) (by decide) rfl (fun _ => ?_) (fun (hc : (3 : Int32) < (3 : Int32)) => absurd hc (by decide))
        refine Go.newO D (pc' := 100) (ce' := 4) (sl' := 31) (hw _ (List.mem_of_getElem? (i := 69) rfl)) (hw _ (List.mem_of_getElem? (i := 2) rfl)) (hw _ (List.mem_of_getElem? (i := 1) rfl)) at_97 rfl rfl rfl (by decide) (by decide) ?_
        intro h97 s97 gs97 E97 X97 D97
        have V97 := D97 (Or.inr (hw _ (List.mem_of_getElem? (i := 4) rfl))) (ty := .array .byte) (by decide)
        have C97 := D97 (Or.inr (hw _ (List.mem_of_getElem? (i := 5) rfl))) (ty := .byte) (by decide)
        have e97 := x81.tr E97
        have y97 := x81.1
        have ee97 := e97.1
        refine Go.dup D (pc' := 101) at_100 rfl rfl ?_
        refine Go.aload D (pc' := 103) at_101 rfl rfl rfl ?_
        have ht : ∀ c ∈ [r0, r1, r2], TokC c := by
          intro c hc
          simp only [List.mem_cons, List.not_mem_nil, or_false] at hc
          rcases hc with rfl | rfl | rfl <;> assumption
        have hl : Lat [r0, r1, r2] := ⟨fun c hc => (ht c hc).lat, by simp⟩
        refine Go.callI D (argsL := [(.ref ar)]) (rest := [(.ref s97)]) (pc' := 106) (ce' := 5) (sl' := 95) (con_strN l Z a0 hw h97 n0 (by omega) (some L1) s97 ar ka [r0, r1, r2] (A81.ext E97) hl (by simp) cz hcz O2 (by omega) X97 V97 C97) rfl (hw _ (List.mem_of_getElem? (i := 70) rfl)) (hw _ (List.mem_of_getElem? (i := 71) rfl)) (hw _ (List.mem_of_getElem? (i := 1) rfl)) (hw _ (List.mem_of_getElem? (i := 72) rfl)) (by decide) at_103 rfl pd14 rfl rfl rfl (by decide) (W := 1) rfl (by decide) (by decide) (by decide) (by decide) (by decide) ?_
        intro v103 h103 σ103 q103
        obtain ⟨rfl, rfl, kk, S103⟩ := q103
        show Go κ (some L1) h103 5 95 106 #[.val (.int a), .val (.int x0), .val (.int x1), .val (.int x2), .val (.int x3), .val (.ref pt), .unset, .val (.int (3 : Int32)), .val (.ref ar)] [(.ref s97)]
        refine Go.astore D (pc' := 108) at_106 rfl rfl (ls' := #[.val (.int a), .val (.int x0), .val (.int x1), .val (.int x2), .val (.int x3), .val (.ref pt), .val (.ref s97), .val (.int (3 : Int32)), .val (.ref ar)]) rfl ?_
        refine Go.aload D (pc' := 110) at_108 rfl rfl rfl ?_
        refine Go.aload D (pc' := 112) at_110 rfl rfl rfl ?_
        refine Go.callS D (argsL := [(.ref pt), (.ref s97)]) (rest := []) (pc' := 115) (ce' := 5) (sl' := 95) (con_chTok l Z a0 hw h103 n0 (some L1) pt s97 [r0, r1, r2] S103 (by simp) ht cz hcz O2 fm rf O4) (hw _ (List.mem_of_getElem? (i := 9) rfl)) (hw _ (List.mem_of_getElem? (i := 10) rfl)) (hw _ (List.mem_of_getElem? (i := 11) rfl)) (hw _ (List.mem_of_getElem? (i := 12) rfl)) (by decide) at_112 rfl pd1 rfl rfl rfl (by decide) (W := 0) rfl (by decide) (by decide) (by decide) (by decide) (by decide) ?_
        intro v112 h112 σ112 q112
        obtain ⟨rfl, rfl, rfl⟩ := q112
        show Go κ (some L1) h103 5 95 115 #[.val (.int a), .val (.int x0), .val (.int x1), .val (.int x2), .val (.int x3), .val (.ref pt), .val (.ref s97), .val (.int (3 : Int32)), .val (.ref ar)] [(.ref s97)]
        refine Go.aload D (pc' := 117) at_115 rfl rfl rfl ?_
        refine Go.acmpNe D (pc' := 124) (pc2 := 120) rfl rfl at_117 (by decide) (by decide) rfl ?_ ?_
        · intro (hc117 : ¬ (.ref s97 : Value) = .ref s97)
          exact absurd rfl hc117
        · intro (hc117 : (.ref s97 : Value) = .ref s97)
          refine Go.iconst D (pc' := 121) at_120 rfl (v := (1 : Int32)) rfl ?_
          refine Go.goto D (pc' := 125) at_121 (by decide) (by decide) ?_
          refine Go.zret D rfl rfl at_125 (by decide) (by decide) ?_
          exact rfl
      · skip
        rw [e]
        show Go κ (some L1) h1 2 24 40 #[.val (.int a), .val (.int x0), .val (.int x1), .val (.int x2), .val (.int x3), .val (.ref pt), .unset, .val (.int (4 : Int32)), .unset] []
        refine Go.iload D (pc' := 42) at_40 rfl rfl ?_
        refine Go.newP D (pc' := 44) (aty := .char) (cap := 4) (ce' := 3) (sl' := 28) (hw _ (List.mem_of_getElem? (i := 63) rfl)) at_42 rfl (by decide) (by decide) (by decide) rfl rfl (by decide) (by decide) ?_
        intro h42 ar ka gar E42 A42
        have y42 := E42.1
        refine Go.astore D (pc' := 46) at_44 rfl rfl (ls' := #[.val (.int a), .val (.int x0), .val (.int x1), .val (.int x2), .val (.int x3), .val (.ref pt), .unset, .val (.int (4 : Int32)), .val (.ref ar)]) rfl ?_
        refine Go.aload D (pc' := 48) at_46 rfl rfl rfl ?_
        refine Go.iconst D (pc' := 49) at_48 rfl (v := (0 : Int32)) rfl ?_
        refine Go.iloadN D (pc' := 50) at_49 rfl rfl ?_
        refine Go.callS D (argsL := [(.int x0)]) (rest := [(.int (0 : Int32)), (.ref ar)]) (pc' := 53) (ce' := 3) (sl' := 28) (con_tok l Z a0 hw h42 n0 (some L1) x0) (hw _ (List.mem_of_getElem? (i := 64) rfl)) (hw _ (List.mem_of_getElem? (i := 65) rfl)) (hw _ (List.mem_of_getElem? (i := 66) rfl)) (hw _ (List.mem_of_getElem? (i := 67) rfl)) (by decide) at_50 rfl pd13 rfl rfl rfl (by decide) (W := 2) rfl (by decide) (by decide) (by decide) (by decide) (by decide) ?_
        intro v50 h50 σ50 q50
        obtain ⟨rfl, rfl, r0, rfl, hr0⟩ := q50
        show Go κ (some L1) h42 3 28 53 #[.val (.int a), .val (.int x0), .val (.int x1), .val (.int x2), .val (.int x3), .val (.ref pt), .unset, .val (.int (4 : Int32)), .val (.ref ar)] [(.int r0), (.int (0 : Int32)), (.ref ar)]
        refine Go.castore D (pc' := 54) (i := 0) at_53 rfl (A42.pad (vs' := [.int 0, .int 0, .int 0, .int 0]) (fun i => pad_rep [] (.int 0) 4 i)) (by decide) (by decide) rfl (by simp) (by omega) (char_nar hr0.lat) ?_
        intro h53 K53 A53
        have x53 := E42.keepN K53 (by omega)
        refine Go.iload D (pc' := 56) at_54 rfl rfl ?_
        refine Go.iconst D (pc' := 57) at_56 rfl (v := (1 : Int32)) rfl ?_
        refine Go.icmp D (pc' := 68) (pc2 := 60) at_57 (by decide) (by decide) rfl (fun (hc : ¬ (1 : Int32) < (4 : Int32)) => absurd hc (by decide)) (fun _ => ?_)
        refine Go.aload D (pc' := 62) at_60 rfl rfl rfl ?_
        refine Go.iconst D (pc' := 63) at_62 rfl (v := (1 : Int32)) rfl ?_
        refine Go.iloadN D (pc' := 64) at_63 rfl rfl ?_
        refine Go.callS D (argsL := [(.int x1)]) (rest := [(.int (1 : Int32)), (.ref ar)]) (pc' := 67) (ce' := 3) (sl' := 28) (con_tok l Z a0 hw h53 n0 (some L1) x1) (hw _ (List.mem_of_getElem? (i := 64) rfl)) (hw _ (List.mem_of_getElem? (i := 65) rfl)) (hw _ (List.mem_of_getElem? (i := 66) rfl)) (hw _ (List.mem_of_getElem? (i := 67) rfl)) (by decide) at_64 rfl pd13 rfl rfl rfl (by decide) (W := 2) rfl (by decide) (by decide) (by decide) (by decide) (by decide) ?_
        intro v64 h64 σ64 q64
        obtain ⟨rfl, rfl, r1, rfl, hr1⟩ := q64
        show Go κ (some L1) h53 3 28 67 #[.val (.int a), .val (.int x0), .val (.int x1), .val (.int x2), .val (.int x3), .val (.ref pt), .unset, .val (.int (4 : Int32)), .val (.ref ar)] [(.int r1), (.int (1 : Int32)), (.ref ar)]
        refine Go.castore D (pc' := 68) (i := 1) at_67 rfl A53 (by decide) (by decide) rfl (by simp) (by omega) (char_nar hr1.lat) ?_
        intro h67 K67 A67
        have x67 := x53.keepN K67 (by omega)
        refine Go.iload D (pc' := 70) at_68 rfl rfl ?_
        refine Go.iconst D (pc' := 71) at_70 rfl (v := (2 : Int32)) rfl ?_
        refine Go.icmp D (pc' := 82) (pc2 := 74) at_71 (by decide) (by decide) rfl (fun (hc : ¬ (2 : Int32) < (4 : Int32)) => absurd hc (by decide)) (fun _ => ?_)
        refine Go.aload D (pc' := 76) at_74 rfl rfl rfl ?_
        refine Go.iconst D (pc' := 77) at_76 rfl (v := (2 : Int32)) rfl ?_
        refine Go.iloadN D (pc' := 78) at_77 rfl rfl ?_
        refine Go.callS D (argsL := [(.int x2)]) (rest := [(.int (2 : Int32)), (.ref ar)]) (pc' := 81) (ce' := 3) (sl' := 28) (con_tok l Z a0 hw h67 n0 (some L1) x2) (hw _ (List.mem_of_getElem? (i := 64) rfl)) (hw _ (List.mem_of_getElem? (i := 65) rfl)) (hw _ (List.mem_of_getElem? (i := 66) rfl)) (hw _ (List.mem_of_getElem? (i := 67) rfl)) (by decide) at_78 rfl pd13 rfl rfl rfl (by decide) (W := 2) rfl (by decide) (by decide) (by decide) (by decide) (by decide) ?_
        intro v78 h78 σ78 q78
        obtain ⟨rfl, rfl, r2, rfl, hr2⟩ := q78
        show Go κ (some L1) h67 3 28 81 #[.val (.int a), .val (.int x0), .val (.int x1), .val (.int x2), .val (.int x3), .val (.ref pt), .unset, .val (.int (4 : Int32)), .val (.ref ar)] [(.int r2), (.int (2 : Int32)), (.ref ar)]
        refine Go.castore D (pc' := 82) (i := 2) at_81 rfl A67 (by decide) (by decide) rfl (by simp) (by omega) (char_nar hr2.lat) ?_
        intro h81 K81 A81
        have x81 := x67.keepN K81 (by omega)
        refine Go.iload D (pc' := 84) at_82 rfl rfl ?_
        refine Go.iconst D (pc' := 85) at_84 rfl (v := (3 : Int32)) rfl ?_
        refine Go.icmp D (pc' := 97) (pc2 := 88) at_85 (by decide) (by decide) rfl (fun (hc : ¬ (3 : Int32) < (4 : Int32)) => absurd hc (by decide)) (fun _ => ?_)
        refine Go.aload D (pc' := 90) at_88 rfl rfl rfl ?_
        refine Go.iconst D (pc' := 91) at_90 rfl (v := (3 : Int32)) rfl ?_
        refine Go.iload D (pc' := 93) at_91 rfl rfl ?_
        refine Go.callS D (argsL := [(.int x3)]) (rest := [(.int (3 : Int32)), (.ref ar)]) (pc' := 96) (ce' := 3) (sl' := 28) (con_tok l Z a0 hw h81 n0 (some L1) x3) (hw _ (List.mem_of_getElem? (i := 64) rfl)) (hw _ (List.mem_of_getElem? (i := 65) rfl)) (hw _ (List.mem_of_getElem? (i := 66) rfl)) (hw _ (List.mem_of_getElem? (i := 67) rfl)) (by decide) at_93 rfl pd13 rfl rfl rfl (by decide) (W := 2) rfl (by decide) (by decide) (by decide) (by decide) (by decide) ?_
        intro v93 h93 σ93 q93
        obtain ⟨rfl, rfl, r3, rfl, hr3⟩ := q93
        show Go κ (some L1) h81 3 28 96 #[.val (.int a), .val (.int x0), .val (.int x1), .val (.int x2), .val (.int x3), .val (.ref pt), .unset, .val (.int (4 : Int32)), .val (.ref ar)] [(.int r3), (.int (3 : Int32)), (.ref ar)]
        refine Go.castore D (pc' := 97) (i := 3) at_96 rfl A81 (by decide) (by decide) rfl (by simp) (by omega) (char_nar hr3.lat) ?_
        intro h96 K96 A96
        have x96 := x81.keepN K96 (by omega)
        refine Go.newO D (pc' := 100) (ce' := 4) (sl' := 32) (hw _ (List.mem_of_getElem? (i := 69) rfl)) (hw _ (List.mem_of_getElem? (i := 2) rfl)) (hw _ (List.mem_of_getElem? (i := 1) rfl)) at_97 rfl rfl rfl (by decide) (by decide) ?_
        intro h97 s97 gs97 E97 X97 D97
        have V97 := D97 (Or.inr (hw _ (List.mem_of_getElem? (i := 4) rfl))) (ty := .array .byte) (by decide)
        have C97 := D97 (Or.inr (hw _ (List.mem_of_getElem? (i := 5) rfl))) (ty := .byte) (by decide)
        have e97 := x96.tr E97
        have y97 := x96.1
        have ee97 := e97.1
        refine Go.dup D (pc' := 101) at_100 rfl rfl ?_
        refine Go.aload D (pc' := 103) at_101 rfl rfl rfl ?_
        have ht : ∀ c ∈ [r0, r1, r2, r3], TokC c := by
          intro c hc
          simp only [List.mem_cons, List.not_mem_nil, or_false] at hc
          rcases hc with rfl | rfl | rfl | rfl <;> assumption
        have hl : Lat [r0, r1, r2, r3] := ⟨fun c hc => (ht c hc).lat, by simp⟩
        refine Go.callI D (argsL := [(.ref ar)]) (rest := [(.ref s97)]) (pc' := 106) (ce' := 5) (sl' := 96) (con_strN l Z a0 hw h97 n0 (by omega) (some L1) s97 ar ka [r0, r1, r2, r3] (A96.ext E97) hl (by simp) cz hcz O2 (by omega) X97 V97 C97) rfl (hw _ (List.mem_of_getElem? (i := 70) rfl)) (hw _ (List.mem_of_getElem? (i := 71) rfl)) (hw _ (List.mem_of_getElem? (i := 1) rfl)) (hw _ (List.mem_of_getElem? (i := 72) rfl)) (by decide) at_103 rfl pd14 rfl rfl rfl (by decide) (W := 1) rfl (by decide) (by decide) (by decide) (by decide) (by decide) ?_
        intro v103 h103 σ103 q103
        obtain ⟨rfl, rfl, kk, S103⟩ := q103
        show Go κ (some L1) h103 5 96 106 #[.val (.int a), .val (.int x0), .val (.int x1), .val (.int x2), .val (.int x3), .val (.ref pt), .unset, .val (.int (4 : Int32)), .val (.ref ar)] [(.ref s97)]
        refine Go.astore D (pc' := 108) at_106 rfl rfl (ls' := #[.val (.int a), .val (.int x0), .val (.int x1), .val (.int x2), .val (.int x3), .val (.ref pt), .val (.ref s97), .val (.int (4 : Int32)), .val (.ref ar)]) rfl ?_
        refine Go.aload D (pc' := 110) at_108 rfl rfl rfl ?_
        refine Go.aload D (pc' := 112) at_110 rfl rfl rfl ?_
        refine Go.callS D (argsL := [(.ref pt), (.ref s97)]) (rest := []) (pc' := 115) (ce' := 5) (sl' := 96) (con_chTok l Z a0 hw h103 n0 (some L1) pt s97 [r0, r1, r2, r3] S103 (by simp) ht cz hcz O2 fm rf O4) (hw _ (List.mem_of_getElem? (i := 9) rfl)) (hw _ (List.mem_of_getElem? (i := 10) rfl)) (hw _ (List.mem_of_getElem? (i := 11) rfl)) (hw _ (List.mem_of_getElem? (i := 12) rfl)) (by decide) at_112 rfl pd1 rfl rfl rfl (by decide) (W := 0) rfl (by decide) (by decide) (by decide) (by decide) (by decide) ?_
        intro v112 h112 σ112 q112
        obtain ⟨rfl, rfl, rfl⟩ := q112
        show Go κ (some L1) h103 5 96 115 #[.val (.int a), .val (.int x0), .val (.int x1), .val (.int x2), .val (.int x3), .val (.ref pt), .val (.ref s97), .val (.int (4 : Int32)), .val (.ref ar)] [(.ref s97)]
        refine Go.aload D (pc' := 117) at_115 rfl rfl rfl ?_
        refine Go.acmpNe D (pc' := 124) (pc2 := 120) rfl rfl at_117 (by decide) (by decide) rfl ?_ ?_
        · intro (hc117 : ¬ (.ref s97 : Value) = .ref s97)
          exact absurd rfl hc117
        · intro (hc117 : (.ref s97 : Value) = .ref s97)
          refine Go.iconst D (pc' := 121) at_120 rfl (v := (1 : Int32)) rfl ?_
          refine Go.goto D (pc' := 125) at_121 (by decide) (by decide) ?_
          refine Go.zret D rfl rfl at_125 (by decide) (by decide) ?_
          exact rfl
    · intro (hc23 : ((a >>> ((2 : Int32) &&& 31)) &&& (7 : Int32)) = 0)
      refine Go.ldcT D (pc' := 28) (n := 256) (ce' := 4) (sl' := 284) (vs := tb "ABCDEFGHIJKLMNOPQRSTUVWXYZabcdefghijklmnopqrstuvwxyz0123456789_-") (z := Int32.ofNat (tb "ABCDEFGHIJKLMNOPQRSTUVWXYZabcdefghijklmnopqrstuvwxyz0123456789_-").length) (hw _ (List.mem_of_getElem? (i := 8) rfl)) (wS hw) hh3 hcw ⟨by decide, rfl⟩ (by decide) (by decide) (K1.has (by decide)) (fun a ha => (K1 _ ha).2) at_26 rfl (by decide) (by decide) rfl rfl (by decide) (by decide) ?_
      intro h2 vs L2 E2 m2 l2 S2
      have S2' : Str Z h2 vs bigC := ⟨by rw [← big_tb, ← big_len]; exact S2, big_lat⟩
      refine Go.astore D (pc' := 30) at_28 rfl rfl (ls' := #[.val (.int a), .val (.int x0), .val (.int x1), .val (.int x2), .val (.int x3), .val (.ref pt), .val (.ref vs), .unset, .unset]) rfl ?_
      refine Go.goto D (pc' := 108) at_30 (by decide) (by decide) ?_
      refine Go.aload D (pc' := 110) at_108 rfl rfl rfl ?_
      refine Go.aload D (pc' := 112) at_110 rfl rfl rfl ?_
      refine Go.callS D (argsL := [(.ref pt), (.ref vs)]) (rest := []) (pc' := 115) (ce' := 4) (sl' := 284) (con_chTok l Z a0 hw h2 n0 (some L2) pt vs bigC S2' (by decide) big_tok cz hcz O2 fm rf O4) (hw _ (List.mem_of_getElem? (i := 9) rfl)) (hw _ (List.mem_of_getElem? (i := 10) rfl)) (hw _ (List.mem_of_getElem? (i := 11) rfl)) (hw _ (List.mem_of_getElem? (i := 12) rfl)) (by decide) at_112 rfl pd1 rfl rfl rfl (by decide) (W := 0) rfl (by decide) (by decide) (by decide) (by decide) (by decide) ?_
      intro v112 h112 σ112 q112
      obtain ⟨rfl, rfl, rfl⟩ := q112
      show Go κ (some L2) h2 4 284 115 #[.val (.int a), .val (.int x0), .val (.int x1), .val (.int x2), .val (.int x3), .val (.ref pt), .val (.ref vs), .unset, .unset] [(.ref vs)]
      refine Go.aload D (pc' := 117) at_115 rfl rfl rfl ?_
      refine Go.acmpNe D (pc' := 124) (pc2 := 120) rfl rfl at_117 (by decide) (by decide) rfl ?_ ?_
      · intro (hc117 : ¬ (.ref vs : Value) = .ref vs)
        exact absurd rfl hc117
      · intro (hc117 : (.ref vs : Value) = .ref vs)
        refine Go.iconst D (pc' := 121) at_120 rfl (v := (1 : Int32)) rfl ?_
        refine Go.goto D (pc' := 125) at_121 (by decide) (by decide) ?_
        refine Go.zret D rfl rfl at_125 (by decide) (by decide) ?_
        exact rfl
  refine Go.iloadN D (pc' := 1) at_0 rfl rfl ?_
  refine Go.iconst D (pc' := 2) at_1 rfl (v := (5 : Int32)) rfl ?_
  refine Go.ishr D (pc' := 3) at_2 rfl  ?_
  refine Go.iconst D (pc' := 4) at_3 rfl (v := (1 : Int32)) rfl ?_
  refine Go.iand D (pc' := 5) at_4 rfl  ?_
  refine Go.ifc D (pc' := 13) (pc2 := 8) at_5 (by decide) (by decide) rfl ?_ ?_
  · intro (hc5 : ((a >>> ((5 : Int32) &&& 31)) &&& (1 : Int32)) = 0)
    refine Go.ldcT D (pc' := 15) (n := 20) (ce' := 2) (sl' := 24) (vs := tb "field") (z := Int32.ofNat (tb "field").length) (hw _ (List.mem_of_getElem? (i := 0) rfl)) (wS hw) hh2 hcw ⟨by decide, rfl⟩ (by decide) (by decide) ((CsOk.nil (CS := CS) (Z := Z) (h := h0)).has (by decide)) (fun a ha => ((CsOk.nil (CS := CS) (Z := Z) (h := h0)) _ ha).2) at_13 rfl (by decide) (by decide) rfl rfl (by decide) (by decide) ?_
    intro h1 c1 L1 E1 m1 l1 S1
    refine Go.astore D (pc' := 17) at_15 rfl rfl (ls' := #[.val (.int a), .val (.int x0), .val (.int x1), .val (.int x2), .val (.int x3), .val (.ref c1), .unset, .unset, .unset]) rfl ?_
    refine Go.up (by decide : 2 ≤ 2) (by decide : 24 ≤ 24) ?_
    exact J17 h1 c1 L1 E1 ((CsOk.nil (CS := CS) (Z := Z) (h := h0)).step E1 (by decide) l1 S1)
  · intro (hc5 : ¬ ((a >>> ((5 : Int32) &&& 31)) &&& (1 : Int32)) = 0)
    refine Go.ldcT D (pc' := 10) (n := 8) (ce' := 2) (sl' := 12) (vs := tb "ns") (z := Int32.ofNat (tb "ns").length) (hw _ (List.mem_of_getElem? (i := 90) rfl)) (wS hw) hh1 hcw ⟨by decide, rfl⟩ (by decide) (by decide) ((CsOk.nil (CS := CS) (Z := Z) (h := h0)).has (by decide)) (fun a ha => ((CsOk.nil (CS := CS) (Z := Z) (h := h0)) _ ha).2) at_8 rfl (by decide) (by decide) rfl rfl (by decide) (by decide) ?_
    intro h1 c1 L1 E1 m1 l1 S1
    refine Go.goto D (pc' := 15) at_10 (by decide) (by decide) ?_
    refine Go.astore D (pc' := 17) at_15 rfl rfl (ls' := #[.val (.int a), .val (.int x0), .val (.int x1), .val (.int x2), .val (.int x3), .val (.ref c1), .unset, .unset, .unset]) rfl ?_
    refine Go.up (by decide : 2 ≤ 2) (by decide : 12 ≤ 24) ?_
    exact J17 h1 c1 L1 E1 ((CsOk.nil (CS := CS) (Z := Z) (h := h0)).step E1 (by decide) l1 S1)
set_option maxRecDepth 65536 in
set_option maxHeartbeats 40000000 in
theorem comes_1 {Post : Tables → Env → Array Value → State → Outcome → State → Prop} (hpost : ∀ tb e args s v u, (limb_1_1.after args s (.returned v) u = true ∧ limb_1_2.after args s (.returned v) u = true ∧ True) → Jvm.D.FramedW s (.returned v) u (Jvm.fieldLocs frame_1_writes args s ++ Jvm.arrayLocs frame_1_arrays args s ++ Jvm.staticLocs frame_1_statics s) 24 3200 → Post tb e args s (.returned v) u) :
    ArmFor flags0 classFile x code maxLocals ret World_1 tables_1 room_1 Calls_1 rest_1 Pre_1 Post := by
  intro l hfl _ _ p e ha hc hk s m args below hf hA hF happ hP
  obtain ⟨hcalls, hrest, hpre⟩ := hP
  obtain ⟨-, -, -, hnamed, -, -, -, hat⟩ := (Spec.applies_iff hf).mp happ
  obtain ⟨hg, hn⟩ := and_e (Cond.before_iff.mp (show (Jvm.Cond.and given_1 narrow_1).before args s = true from hpre))
  obtain ⟨h1, k0⟩ := and_e hg
  obtain ⟨j0, k1⟩ := and_e k0
  obtain ⟨j1, k2⟩ := and_e k1
  obtain ⟨j2, k3⟩ := and_e k2
  obtain ⟨j3, k4⟩ := and_e k3
  obtain ⟨w0, w1, w2, w3, w4, rfl⟩ : ∃ w0 w1 w2 w3 w4 : Value, args = #[w0, w1, w2, w3, w4] := by
    have hs : args.size = 5 := by simpa [Cond.value, given_1] using h1
    obtain ⟨L⟩ := args
    match L, hs with
    | [w0, w1, w2, w3, w4], _ => exact ⟨w0, w1, w2, w3, w4, rfl⟩
  have hw := fun d (hd : d ∈ tables_1) => atoms_spec (ws := Jvm.Cond.code x code maxLocals ret :: tables_1) hat d (List.mem_cons_of_mem _ hd)
  obtain ⟨i0, e0⟩ := is_v j0
  obtain rfl : w0 = (.int i0) := Option.some.inj e0
  obtain ⟨i1, e1⟩ := is_v j1
  obtain rfl : w1 = (.int i1) := Option.some.inj e1
  obtain ⟨i2, e2⟩ := is_v j2
  obtain rfl : w2 = (.int i2) := Option.some.inj e2
  obtain ⟨i3, e3⟩ := is_v j3
  obtain rfl : w3 = (.int i3) := Option.some.inj e3
  obtain ⟨i4, e4⟩ := is_v k4
  obtain rfl : w4 = (.int i4) := Option.some.inj e4
  obtain ⟨hsets, hown0⟩ := atoms_of _ (rest_1_c_eq ▸ (show rest_1_c.before _ s = true from hrest))
  have n3 := not_v (Cond.before_iff.mp (hsets _ (List.mem_of_getElem? (i := 2) rfl)))
  obtain ⟨i77, e77⟩ := is_v (Cond.before_iff.mp (hsets _ (List.mem_of_getElem? (i := 1) rfl)))
  have S8 : Sta s s.heap "java/lang/String" "COMPACT_STRINGS" "Z" (.int i77) := Sta.start e77 (Or.inl (hsets _ (List.mem_of_getElem? (i := 0) rfl)))
  have c13 : ¬ (i77 = (0 : Int32)) := gotF (Cond.eq_ints e77 (Term.int_eval (0))) n3
  have hcw : Jvm.Lit.compactW.before _ s = true := hsets _ (List.mem_of_getElem? (i := 2) rfl)

  obtain ⟨v9, e10, r11⟩ := isR_v (Cond.before_iff.mp (hsets _ (List.mem_of_getElem? (i := 8) rfl)))
  have S12 : Sta s s.heap "jdk/internal/util/Preconditions" "SIOOBE_FORMATTER" "Ljava/util/function/BiFunction;" v9 := Sta.start e10 (Or.inl (hsets _ (List.mem_of_getElem? (i := 7) rfl)))
  have hcs : ∀ q ∈ consts_1, Jvm.Lit.constHeld s q.1 q.2 := hcalls.1
  obtain ⟨n, o, g1, g2, g3, _, L, τ, rfl, ⟨N, -, -, rfl⟩, hq⟩ := con_law l s _ hw s.heap s.heap.size (Nat.le_refl _) hcw i77 c13 S8 v9 r11 S12 (hcs ("com/example/ticks_into_totals/ticksintototals/CounterNameCheckTokenPinLaw", 8) (by simp [consts_1])) (hcs ("com/example/ticks_into_totals/ticksintototals/CounterNameCheckTokenPinLaw", 10) (by simp [consts_1])) (hcs ("com/example/ticks_into_totals/ticksintototals/CounterNameCheckTokenPinLaw", 12) (by simp [consts_1])) i0 i1 i2 i3 i4 p e ha hc hk s m _ below hf ((Spec.applies_iff_loose hf).mp happ).1 ⟨rfl, State.Warmed39.refl s, rfl, ⟨IB.start, fun q hq => nomatch hq⟩, Old.start s⟩ trivial
  refine ⟨n, _, g1, g2, g3, hpost _ _ _ _ _ _ ⟨Cond.after_iff.mpr rfl, Cond.after_iff.mpr (eq_i res_at (Term.int_eval (1)) rfl), trivial⟩ ⟨hq.1, hq.2.1, hq.2.2.1, (hq.2.2.2.sift fun y hy => Or.inr (N y hy)).mono (by decide) (by decide)⟩⟩
theorem main_1_1 : Claimed_1_1 := comes_1 fun _ _ _ _ _ _ h hF => ⟨h.1, hF⟩
theorem main_1_2 : Claimed_1_2 := comes_1 fun _ _ _ _ _ _ h hF => ⟨h.2.1, hF⟩
end Jvm.Pilot.@@N@@
namespace Jvm.Pilot.@@N@@
open Jvm Jvm.ClassFile Sem Op Lib Jvm.Free Jvm.Stand Jvm.Pilot.@@N@@.Jvm.D
/-! MADE BY PROGRAM (witnessworld.py) out of the Statement's table words and the real class files: 22 classes; the members and pool entries that the words name. The judged class is class 1, her method 2. -/
namespace start1
open Jvm.ClassFile
def u (s : String) : CpInfo := .utf8 (stringToUtf16 s)
/-- a pool by its gaps: so many unusable entries, then the entry; so many at the end -/
def gap : Nat → List CpInfo → List CpInfo
  | 0, r => r
  | n + 1, r => .unusable :: gap n r
def poolList (es : List (Nat × CpInfo)) (last : Nat) : List CpInfo := es.foldr (fun e r => gap e.1 (e.2 :: r)) (gap last [])
def pool (es : List (Nat × CpInfo)) (last : Nat) : Array CpInfo := ⟨poolList es last⟩
def fileOf (pool : Array CpInfo) (this : Nat) (attrs : Array Attribute := #[]) (ms : Array MethodInfo := #[]) (fl : Nat := 33) (sup : Nat := 0) (ifs : Array Nat := #[]) (fds : Array FieldInfo := #[]) : ClassFile where
  minorVersion := 0
  majorVersion := 65
  constantPool := pool
  accessFlags := fl
  thisClass := this
  superClass := sup
  interfaces := ifs
  fields := fds
  methods := ms
  attributes := attrs
def plain (name : String) (sup : Option ClassId) : Class where
  name := name
  kind := .ordinary
  loader := none
  accessFlags := 33
  super := sup
  interfaces := #[]
  cf := none
  fields := #[]
  methods := #[]
  instanceTypes := #[]
  staticTypes := #[]
  resolved := #[]
  callSites := []
  init := .initialized
  statics := none
  mirror := none

def pool0 : Array CpInfo := pool [(5, u "<init>"), (0, u "()V"), (1, .class_ 10), (1, u "java/lang/Object")] 113

def k0c0 : Code := { maxStack := 0, maxLocals := 1, code := object_method_1_code, exceptionTable := #[], attributes := #[] }
def k0m0 : Method := { name := "<init>", desc := "()V", sig := { parameters := [], returnType := none }, accessFlags := 1, code := some k0c0 }
/-- java/lang/Object -/
def k0 : Class := { plain "java/lang/Object" none with
  accessFlags := 33
  interfaces := #[]
  cf := some (fileOf pool0 8 #[] #[{ accessFlags := 1, nameIndex := 5, descriptorIndex := 6, attributes := #[] }] 33 0 #[] #[])
  fields := #[]
  methods := #[k0m0]
  instanceTypes := #[]
  staticTypes := #[]
  resolved := Array.replicate 124 none
  statics := none }

def pool1 : Array CpInfo := pool [(2, .class_ 4), (1, u "java/lang/Object"), (0, u "<init>"), (0, u "()V"), (0, .integer 2147483647), (0, .string 9), (0, u "ns"), (0, .string 11), (0, u "field"), (0, .string 13), (0, u "ABCDEFGHIJKLMNOPQRSTUVWXYZabcdefghijklmnopqrstuvwxyz0123456789_-"), (0, .methodref 15 16), (0, .class_ 17), (0, .nameAndType 18 19), (0, u "com/example/ticks_into_totals/ticksintototals/CounterNameCheckTokenPinLaw"), (0, u "tokenChar"), (0, u "(I)C"), (0, .class_ 21), (0, u "java/lang/String"), (0, .methodref 20 23), (0, .nameAndType 5 24), (0, u "([C)V"), (0, .methodref 26 27), (0, .class_ 28), (0, .nameAndType 29 30), (0, u "com/example/ticks_into_totals/ticksintototals/CounterName"), (0, u "checkToken"), (0, u "(Ljava/lang/String;Ljava/lang/String;)Ljava/lang/String;"), (3, u "law"), (0, u "(IIIII)Z")] 4

def k1m0 : Method := { name := "<init>", desc := "()V", sig := { parameters := [], returnType := none }, accessFlags := 1, code := none }
def k1c1 : Code := { maxStack := 3, maxLocals := 2, code := method_2_code, exceptionTable := #[], attributes := #[] }
def k1m1 : Method := { name := "tokenChar", desc := "(I)C", sig := { parameters := [.int], returnType := some .char }, accessFlags := 10, code := some k1c1 }
def k1c2 : Code := { maxStack := 3, maxLocals := 9, code := code, exceptionTable := #[], attributes := #[] }
def k1m2 : Method := { name := "law", desc := "(IIIII)Z", sig := { parameters := [.int, .int, .int, .int, .int], returnType := some .boolean }, accessFlags := 9, code := some k1c2 }
/-- com/example/ticks_into_totals/ticksintototals/CounterNameCheckTokenPinLaw -/
def k1 : Class := { plain "com/example/ticks_into_totals/ticksintototals/CounterNameCheckTokenPinLaw" (some 0) with
  accessFlags := 49
  interfaces := #[]
  cf := some (fileOf pool1 15 #[] #[{ accessFlags := 1, nameIndex := 5, descriptorIndex := 6, attributes := #[] }, { accessFlags := 10, nameIndex := 18, descriptorIndex := 19, attributes := #[] }, { accessFlags := 9, nameIndex := 34, descriptorIndex := 35, attributes := #[] }] 49 2 #[] #[])
  fields := #[]
  methods := #[k1m0, k1m1, k1m2]
  instanceTypes := #[]
  staticTypes := #[]
  resolved := Array.replicate 40 none
  statics := none }

def pool2 : Array CpInfo := pool [(1, .class_ 2), (0, u "java/io/Serializable"), (0, .class_ 4), (0, u "java/lang/Object")] 2

/-- java/io/Serializable -/
def k2 : Class := { plain "java/io/Serializable" (some 0) with
  accessFlags := 1537
  interfaces := #[]
  cf := some (fileOf pool2 1 #[] #[] 1537 3 #[] #[])
  fields := #[]
  methods := #[]
  instanceTypes := #[]
  staticTypes := #[]
  resolved := Array.replicate 7 none
  statics := none }

def pool3 : Array CpInfo := pool [(1, .class_ 2), (0, u "java/lang/Comparable"), (0, .class_ 4), (0, u "java/lang/Object")] 7

/-- java/lang/Comparable -/
def k3 : Class := { plain "java/lang/Comparable" (some 0) with
  accessFlags := 1537
  interfaces := #[]
  cf := some (fileOf pool3 1 #[] #[] 1537 3 #[] #[])
  fields := #[]
  methods := #[]
  instanceTypes := #[]
  staticTypes := #[]
  resolved := Array.replicate 12 none
  statics := none }

def pool4 : Array CpInfo := pool [(2, .class_ 4), (1, u "java/lang/CharSequence"), (42, .class_ 48), (0, u "java/lang/CharSequence$1CodePointIterator"), (10, .class_ 60), (0, u "java/lang/CharSequence$1CharIterator"), (5, .class_ 67), (0, u "java/lang/Object")] 63

/-- java/lang/CharSequence -/
def k4 : Class := { plain "java/lang/CharSequence" (some 0) with
  accessFlags := 1537
  interfaces := #[]
  cf := some (fileOf pool4 2 #[.nestMembers #[47, 59]] #[] 1537 66 #[] #[])
  fields := #[]
  methods := #[]
  instanceTypes := #[]
  staticTypes := #[]
  resolved := Array.replicate 131 none
  statics := none }

def pool5 : Array CpInfo := pool [(1, .class_ 2), (0, u "java/lang/constant/Constable"), (0, .class_ 4), (0, u "java/lang/Object")] 6

/-- java/lang/constant/Constable -/
def k5 : Class := { plain "java/lang/constant/Constable" (some 0) with
  accessFlags := 1537
  interfaces := #[]
  cf := some (fileOf pool5 1 #[] #[] 1537 3 #[] #[])
  fields := #[]
  methods := #[]
  instanceTypes := #[]
  staticTypes := #[]
  resolved := Array.replicate 11 none
  statics := none }

def pool6 : Array CpInfo := pool [(1, .class_ 2), (0, u "java/lang/constant/ConstantDesc"), (0, .class_ 4), (0, u "java/lang/Object")] 32

/-- java/lang/constant/ConstantDesc -/
def k6 : Class := { plain "java/lang/constant/ConstantDesc" (some 0) with
  accessFlags := 1537
  interfaces := #[]
  cf := some (fileOf pool6 1 #[] #[] 1537 3 #[] #[])
  fields := #[]
  methods := #[]
  instanceTypes := #[]
  staticTypes := #[]
  resolved := Array.replicate 37 none
  statics := none }

def pool7 : Array CpInfo := pool [(1, .methodref 2 3), (0, .class_ 4), (0, .nameAndType 5 6), (0, u "java/lang/Object"), (0, u "<init>"), (0, u "()V"), (2, .fieldref 10 11), (0, .class_ 12), (0, .nameAndType 13 14), (0, u "java/lang/String"), (0, u "value"), (0, u "[B"), (0, .fieldref 10 16), (0, .nameAndType 17 18), (0, u "coder"), (0, u "B"), (2, u "hash"), (0, u "I"), (2, u "hashIsZero"), (0, u "Z"), (0, .methodref 10 28), (0, .nameAndType 5 29), (0, u "([CIILjava/lang/Void;)V"), (8, .fieldref 10 39), (0, .nameAndType 40 26), (0, u "COMPACT_STRINGS"), (1, .class_ 44), (1, u "java/lang/StringUTF16"), (0, u "compress"), (1, .methodref 42 48), (0, .nameAndType 49 50), (0, u "coderFromArrayLen"), (0, u "([BI)B"), (56, .class_ 109), (1, u "java/lang/StringLatin1"), (32, u "()Z"), (34, .methodref 42 178), (0, .nameAndType 45 179), (0, u "([CII)[B"), (154, u "()I"), (0, .methodref 10 336), (0, .nameAndType 17 337), (0, u "()B"), (25, u "([BI)C"), (27, u "(II)V"), (35, u "(I)C"), (64, .methodref 10 493), (0, .nameAndType 494 142), (0, u "isLatin1"), (0, .methodref 107 496), (0, .nameAndType 497 363), (0, u "charAt"), (3, u "checkIndex"), (5, u "length"), (67, .class_ 576), (0, u "java/lang/CharSequence"), (22, u "CASE_INSENSITIVE_ORDER"), (0, u "Ljava/util/Comparator;"), (91, u "isEmpty"), (317, u "([C)V"), (42, .fieldref 1054 1055), (0, .class_ 1056), (0, .nameAndType 1057 1058), (0, u "jdk/internal/util/Preconditions"), (0, u "SIOOBE_FORMATTER"), (0, u "Ljava/util/function/BiFunction;"), (0, .methodref 1054 1060), (0, .nameAndType 501 1061), (0, u "(IILjava/util/function/BiFunction;)I"), (39, u "serialPersistentFields"), (0, u "[Ljava/io/ObjectStreamField;"), (0, .class_ 1104), (0, u "java/lang/String$CaseInsensitiveComparator"), (1, .class_ 1107), (0, u "java/io/Serializable"), (0, .class_ 1109), (0, u "java/lang/Comparable"), (0, .class_ 1111), (0, u "java/lang/constant/Constable"), (0, .class_ 1113), (0, u "java/lang/constant/ConstantDesc"), (2, u "serialVersionUID"), (0, u "J"), (3, u "REPL"), (0, u "C"), (2, u "LATIN1"), (1, u "UTF16")] 323

def k7m0 : Method := { name := "<init>", desc := "()V", sig := { parameters := [], returnType := none }, accessFlags := 1, code := none }
def k7c1 : Code := { maxStack := 5, maxLocals := 2, code := jdk_42_method_3_code, exceptionTable := #[], attributes := #[] }
def k7m1 : Method := { name := "<init>", desc := "([C)V", sig := { parameters := [(.array .char)], returnType := none }, accessFlags := 1, code := some k7c1 }
def k7c2 : Code := { maxStack := 2, maxLocals := 1, code := jdk_42_method_54_code, exceptionTable := #[], attributes := #[] }
def k7m2 : Method := { name := "length", desc := "()I", sig := { parameters := [], returnType := some .int }, accessFlags := 1, code := some k7c2 }
def k7c3 : Code := { maxStack := 1, maxLocals := 1, code := jdk_42_method_55_code, exceptionTable := #[], attributes := #[] }
def k7m3 : Method := { name := "isEmpty", desc := "()Z", sig := { parameters := [], returnType := some .boolean }, accessFlags := 1, code := some k7c3 }
def k7c4 : Code := { maxStack := 2, maxLocals := 2, code := jdk_42_method_56_code, exceptionTable := #[], attributes := #[] }
def k7m4 : Method := { name := "charAt", desc := "(I)C", sig := { parameters := [.int], returnType := some .char }, accessFlags := 1, code := some k7c4 }
def k7c5 : Code := { maxStack := 4, maxLocals := 6, code := jdk_42_method_149_code, exceptionTable := #[], attributes := #[] }
def k7m5 : Method := { name := "<init>", desc := "([CIILjava/lang/Void;)V", sig := { parameters := [(.array .char), .int, .int, (.object "java/lang/Void")], returnType := none }, accessFlags := 2, code := some k7c5 }
def k7c6 : Code := { maxStack := 1, maxLocals := 1, code := jdk_42_method_152_code, exceptionTable := #[], attributes := #[] }
def k7m6 : Method := { name := "coder", desc := "()B", sig := { parameters := [], returnType := some .byte }, accessFlags := 0, code := some k7c6 }
def k7c7 : Code := { maxStack := 1, maxLocals := 1, code := jdk_42_method_154_code, exceptionTable := #[], attributes := #[] }
def k7m7 : Method := { name := "isLatin1", desc := "()Z", sig := { parameters := [], returnType := some .boolean }, accessFlags := 0, code := some k7c7 }
def k7c8 : Code := { maxStack := 3, maxLocals := 2, code := jdk_42_method_155_code, exceptionTable := #[], attributes := #[] }
def k7m8 : Method := { name := "checkIndex", desc := "(II)V", sig := { parameters := [.int, .int], returnType := none }, accessFlags := 8, code := some k7c8 }
/-- java/lang/String -/
def k7 : Class := { plain "java/lang/String" (some 0) with
  accessFlags := 49
  interfaces := #[2, 3, 4, 5, 6]
  cf := some (fileOf pool7 10 #[.nestMembers #[1103]] #[{ accessFlags := 1, nameIndex := 5, descriptorIndex := 6, attributes := #[] }, { accessFlags := 1, nameIndex := 5, descriptorIndex := 1010, attributes := #[] }, { accessFlags := 1, nameIndex := 507, descriptorIndex := 334, attributes := #[] }, { accessFlags := 1, nameIndex := 692, descriptorIndex := 142, attributes := #[] }, { accessFlags := 1, nameIndex := 497, descriptorIndex := 427, attributes := #[] }, { accessFlags := 2, nameIndex := 5, descriptorIndex := 29, attributes := #[] }, { accessFlags := 0, nameIndex := 17, descriptorIndex := 337, attributes := #[] }, { accessFlags := 0, nameIndex := 494, descriptorIndex := 142, attributes := #[] }, { accessFlags := 8, nameIndex := 501, descriptorIndex := 391, attributes := #[] }] 49 2 #[1106, 1108, 575, 1110, 1112] #[{ accessFlags := 18, nameIndex := 13, descriptorIndex := 14, attributes := #[] }, { accessFlags := 18, nameIndex := 17, descriptorIndex := 18, attributes := #[] }, { accessFlags := 2, nameIndex := 21, descriptorIndex := 22, attributes := #[] }, { accessFlags := 2, nameIndex := 25, descriptorIndex := 26, attributes := #[] }, { accessFlags := 26, nameIndex := 1116, descriptorIndex := 1117, attributes := #[] }, { accessFlags := 24, nameIndex := 40, descriptorIndex := 26, attributes := #[] }, { accessFlags := 26, nameIndex := 1101, descriptorIndex := 1102, attributes := #[] }, { accessFlags := 26, nameIndex := 1121, descriptorIndex := 1122, attributes := #[] }, { accessFlags := 25, nameIndex := 599, descriptorIndex := 600, attributes := #[] }, { accessFlags := 24, nameIndex := 1125, descriptorIndex := 18, attributes := #[] }, { accessFlags := 24, nameIndex := 1127, descriptorIndex := 18, attributes := #[] }])
  fields := #[{ name := "value", type := (.array .byte), accessFlags := 18, slot := 0, constantValue := 0 }, { name := "coder", type := .byte, accessFlags := 18, slot := 1, constantValue := 0 }, { name := "hash", type := .int, accessFlags := 2, slot := 2, constantValue := 0 }, { name := "hashIsZero", type := .boolean, accessFlags := 2, slot := 3, constantValue := 0 }, { name := "serialVersionUID", type := .long, accessFlags := 26, slot := 0, constantValue := 0 }, { name := "COMPACT_STRINGS", type := .boolean, accessFlags := 24, slot := 1, constantValue := 0 }, { name := "serialPersistentFields", type := (.array (.object "java/io/ObjectStreamField")), accessFlags := 26, slot := 2, constantValue := 0 }, { name := "REPL", type := .char, accessFlags := 26, slot := 3, constantValue := 0 }, { name := "CASE_INSENSITIVE_ORDER", type := (.object "java/util/Comparator"), accessFlags := 25, slot := 4, constantValue := 0 }, { name := "LATIN1", type := .byte, accessFlags := 24, slot := 5, constantValue := 0 }, { name := "UTF16", type := .byte, accessFlags := 24, slot := 6, constantValue := 0 }]
  methods := #[k7m0, k7m1, k7m2, k7m3, k7m4, k7m5, k7m6, k7m7, k7m8]
  instanceTypes := #[(.array .byte), .byte, .int, .boolean]
  staticTypes := #[.long, .boolean, (.array (.object "java/io/ObjectStreamField")), .char, (.object "java/util/Comparator"), .byte, .byte]
  resolved := Array.replicate 1451 none
  statics := some 0 }

def pool8 : Array CpInfo := pool [(2, .class_ 4), (1, u "java/lang/Object"), (0, u "<init>"), (0, u "()V"), (0, .class_ 8), (0, u "java/lang/Record")] 13

def k8m0 : Method := { name := "<init>", desc := "()V", sig := { parameters := [], returnType := none }, accessFlags := 4, code := none }
/-- java/lang/Record -/
def k8 : Class := { plain "java/lang/Record" (some 0) with
  accessFlags := 1057
  interfaces := #[]
  cf := some (fileOf pool8 7 #[] #[{ accessFlags := 4, nameIndex := 5, descriptorIndex := 6, attributes := #[] }] 1057 2 #[] #[])
  fields := #[]
  methods := #[k8m0]
  instanceTypes := #[]
  staticTypes := #[]
  resolved := Array.replicate 22 none
  statics := none }

def pool9 : Array CpInfo := pool [(2, .class_ 4), (1, u "java/lang/Record"), (3, u "ns"), (1, .class_ 12), (1, u "com/example/ticks_into_totals/ticksintototals/CounterName"), (0, u "checkToken"), (0, u "(Ljava/lang/String;Ljava/lang/String;)Ljava/lang/String;"), (5, u "field"), (2, u "Ljava/lang/String;"), (2, u "id"), (3, .class_ 32), (1, u "java/lang/String"), (5, u "()I"), (0, .methodref 40 41), (0, .class_ 42), (0, .nameAndType 43 44), (0, u "java/util/Objects"), (0, u "requireNonNull"), (0, u "(Ljava/lang/Object;Ljava/lang/String;)Ljava/lang/Object;"), (0, .methodref 30 46), (0, .nameAndType 47 48), (0, u "isEmpty"), (0, u "()Z"), (0, .methodref 30 50), (0, .nameAndType 51 38), (0, u "length"), (0, .methodref 10 53), (0, .nameAndType 54 55), (0, u "isToken"), (0, u "(Ljava/lang/String;)Z"), (19, .methodref 30 76), (0, .nameAndType 77 78), (0, u "charAt"), (0, u "(I)C"), (0, .methodref 10 80), (0, .nameAndType 81 82), (0, u "isTokenChar"), (0, u "(C)Z"), (38, u "MAX_TOKEN_LENGTH"), (0, u "I"), (2, u "MAX_ID_BYTES")] 29

def k9c0 : Code := { maxStack := 7, maxLocals := 2, code := prog_3_method_4_code, exceptionTable := #[], attributes := #[] }
def k9m0 : Method := { name := "checkToken", desc := "(Ljava/lang/String;Ljava/lang/String;)Ljava/lang/String;", sig := { parameters := [(.object "java/lang/String"), (.object "java/lang/String")], returnType := some (.object "java/lang/String") }, accessFlags := 8, code := some k9c0 }
def k9c1 : Code := { maxStack := 2, maxLocals := 2, code := prog_3_method_5_code, exceptionTable := #[], attributes := #[] }
def k9m1 : Method := { name := "isToken", desc := "(Ljava/lang/String;)Z", sig := { parameters := [(.object "java/lang/String")], returnType := some .boolean }, accessFlags := 10, code := some k9c1 }
def k9c2 : Code := { maxStack := 2, maxLocals := 1, code := prog_3_method_6_code, exceptionTable := #[], attributes := #[] }
def k9m2 : Method := { name := "isTokenChar", desc := "(C)Z", sig := { parameters := [.char], returnType := some .boolean }, accessFlags := 10, code := some k9c2 }
/-- com/example/ticks_into_totals/ticksintototals/CounterName -/
def k9 : Class := { plain "com/example/ticks_into_totals/ticksintototals/CounterName" (some 8) with
  accessFlags := 49
  interfaces := #[]
  cf := some (fileOf pool9 10 #[] #[{ accessFlags := 8, nameIndex := 13, descriptorIndex := 14, attributes := #[] }, { accessFlags := 10, nameIndex := 54, descriptorIndex := 55, attributes := #[] }, { accessFlags := 10, nameIndex := 81, descriptorIndex := 82, attributes := #[] }] 49 2 #[] #[{ accessFlags := 18, nameIndex := 8, descriptorIndex := 23, attributes := #[] }, { accessFlags := 18, nameIndex := 26, descriptorIndex := 23, attributes := #[] }, { accessFlags := 18, nameIndex := 20, descriptorIndex := 23, attributes := #[] }, { accessFlags := 26, nameIndex := 121, descriptorIndex := 122, attributes := #[] }, { accessFlags := 26, nameIndex := 125, descriptorIndex := 122, attributes := #[] }])
  fields := #[{ name := "ns", type := (.object "java/lang/String"), accessFlags := 18, slot := 0, constantValue := 0 }, { name := "id", type := (.object "java/lang/String"), accessFlags := 18, slot := 1, constantValue := 0 }, { name := "field", type := (.object "java/lang/String"), accessFlags := 18, slot := 2, constantValue := 0 }, { name := "MAX_TOKEN_LENGTH", type := .int, accessFlags := 26, slot := 0, constantValue := 0 }, { name := "MAX_ID_BYTES", type := .int, accessFlags := 26, slot := 1, constantValue := 0 }]
  methods := #[k9m0, k9m1, k9m2]
  instanceTypes := #[(.object "java/lang/String"), (.object "java/lang/String"), (.object "java/lang/String")]
  staticTypes := #[.int, .int]
  resolved := Array.replicate 155 none
  statics := none }

def pool10 : Array CpInfo := pool [(2, .class_ 4), (1, u "java/lang/Object"), (0, u "<init>"), (0, u "()V"), (35, .class_ 44), (1, u "java/util/Objects"), (0, u "requireNonNull"), (48, u "(Ljava/lang/Object;Ljava/lang/String;)Ljava/lang/Object;")] 89

def k10m0 : Method := { name := "<init>", desc := "()V", sig := { parameters := [], returnType := none }, accessFlags := 2, code := none }
def k10c1 : Code := { maxStack := 3, maxLocals := 2, code := jdk_31_method_11_code, exceptionTable := #[], attributes := #[] }
def k10m1 : Method := { name := "requireNonNull", desc := "(Ljava/lang/Object;Ljava/lang/String;)Ljava/lang/Object;", sig := { parameters := [(.object "java/lang/Object"), (.object "java/lang/String")], returnType := some (.object "java/lang/Object") }, accessFlags := 9, code := some k10c1 }
/-- java/util/Objects -/
def k10 : Class := { plain "java/util/Objects" (some 0) with
  accessFlags := 49
  interfaces := #[]
  cf := some (fileOf pool10 42 #[] #[{ accessFlags := 2, nameIndex := 5, descriptorIndex := 6, attributes := #[] }, { accessFlags := 9, nameIndex := 45, descriptorIndex := 94, attributes := #[] }] 49 2 #[] #[])
  fields := #[]
  methods := #[k10m0, k10m1]
  instanceTypes := #[]
  staticTypes := #[]
  resolved := Array.replicate 184 none
  statics := none }

def pool11 : Array CpInfo := pool [(1, .class_ 2), (0, u "java/lang/String"), (1, .class_ 6), (1, u "java/lang/Object"), (0, u "<init>"), (0, u "()V"), (0, .methodref 1 10), (0, .nameAndType 11 12), (0, u "checkIndex"), (0, u "(II)V"), (1, .class_ 16), (1, u "java/lang/StringLatin1"), (36, u "([BI)C"), (67, u "$assertionsDisabled"), (0, u "Z"), (98, .class_ 223), (1, u "java/lang/StringLatin1$LinesSpliterator"), (28, u "charAt"), (137, .class_ 391), (0, u "java/lang/StringLatin1$CharsSpliterator")] 3

def k11m0 : Method := { name := "<init>", desc := "()V", sig := { parameters := [], returnType := none }, accessFlags := 0, code := none }
def k11c1 : Code := { maxStack := 2, maxLocals := 2, code := jdk_43_method_2_code, exceptionTable := #[], attributes := #[] }
def k11m1 : Method := { name := "charAt", desc := "([BI)C", sig := { parameters := [(.array .byte), .int], returnType := some .char }, accessFlags := 9, code := some k11c1 }
/-- java/lang/StringLatin1 -/
def k11 : Class := { plain "java/lang/StringLatin1" (some 0) with
  accessFlags := 48
  interfaces := #[]
  cf := some (fileOf pool11 14 #[.nestMembers #[390, 221]] #[{ accessFlags := 0, nameIndex := 7, descriptorIndex := 8, attributes := #[] }, { accessFlags := 9, nameIndex := 252, descriptorIndex := 53, attributes := #[] }] 48 4 #[] #[{ accessFlags := 4120, nameIndex := 121, descriptorIndex := 122, attributes := #[] }])
  fields := #[{ name := "$assertionsDisabled", type := .boolean, accessFlags := 4120, slot := 0, constantValue := 0 }]
  methods := #[k11m0, k11m1]
  instanceTypes := #[]
  staticTypes := #[.boolean]
  resolved := Array.replicate 395 none
  statics := none }

def pool12 : Array CpInfo := pool [(2, .class_ 4), (1, u "java/lang/Object"), (0, u "<init>"), (0, u "()V"), (17, .class_ 26), (1, u "jdk/internal/util/Preconditions"), (6, u "checkIndex"), (21, .class_ 56), (0, u "jdk/internal/util/Preconditions$4"), (57, .class_ 115), (0, u "jdk/internal/util/Preconditions$1"), (7, u "SIOOBE_FORMATTER"), (0, u "Ljava/util/function/BiFunction;"), (0, .class_ 126), (0, u "jdk/internal/util/Preconditions$2"), (3, u "AIOOBE_FORMATTER"), (0, .class_ 132), (0, u "jdk/internal/util/Preconditions$3"), (3, u "IOOBE_FORMATTER"), (41, u "(IILjava/util/function/BiFunction;)I")] 15

def k12m0 : Method := { name := "<init>", desc := "()V", sig := { parameters := [], returnType := none }, accessFlags := 1, code := none }
def k12c1 : Code := { maxStack := 3, maxLocals := 3, code := jdk_41_method_11_code, exceptionTable := #[], attributes := #[] }
def k12m1 : Method := { name := "checkIndex", desc := "(IILjava/util/function/BiFunction;)I", sig := { parameters := [.int, .int, (.object "java/util/function/BiFunction")], returnType := some .int }, accessFlags := 9, code := some k12c1 }
/-- jdk/internal/util/Preconditions -/
def k12 : Class := { plain "jdk/internal/util/Preconditions" (some 0) with
  accessFlags := 33
  interfaces := #[]
  cf := some (fileOf pool12 24 #[.nestMembers #[55, 131, 125, 114]] #[{ accessFlags := 1, nameIndex := 5, descriptorIndex := 6, attributes := #[] }, { accessFlags := 9, nameIndex := 33, descriptorIndex := 178, attributes := #[] }] 33 2 #[] #[{ accessFlags := 25, nameIndex := 123, descriptorIndex := 124, attributes := #[] }, { accessFlags := 25, nameIndex := 130, descriptorIndex := 124, attributes := #[] }, { accessFlags := 25, nameIndex := 136, descriptorIndex := 124, attributes := #[] }])
  fields := #[{ name := "SIOOBE_FORMATTER", type := (.object "java/util/function/BiFunction"), accessFlags := 25, slot := 0, constantValue := 0 }, { name := "AIOOBE_FORMATTER", type := (.object "java/util/function/BiFunction"), accessFlags := 25, slot := 1, constantValue := 0 }, { name := "IOOBE_FORMATTER", type := (.object "java/util/function/BiFunction"), accessFlags := 25, slot := 2, constantValue := 0 }]
  methods := #[k12m0, k12m1]
  instanceTypes := #[]
  staticTypes := #[(.object "java/util/function/BiFunction"), (.object "java/util/function/BiFunction"), (.object "java/util/function/BiFunction")]
  resolved := Array.replicate 194 none
  statics := some 1 }

def pool13 : Array CpInfo := pool [(6, .class_ 8), (1, u "java/lang/Object"), (0, u "<init>"), (0, u "()V"), (1, .class_ 14), (1, u "java/lang/StringUTF16"), (31, u "$assertionsDisabled"), (0, u "Z"), (13, u "HI_BYTE_SHIFT"), (0, u "I"), (2, u "LO_BYTE_SHIFT"), (49, .methodref 12 116), (0, .nameAndType 117 118), (0, u "compress"), (0, u "([CI[BII)I"), (3, u "([CII)[B"), (138, u "coderFromArrayLen"), (0, u "([BI)B"), (106, .class_ 371), (1, u "java/lang/StringUTF16$LinesSpliterator"), (58, u "MAX_LENGTH"), (196, .class_ 628), (0, u "java/lang/StringUTF16$CodePointsSpliterator"), (0, .class_ 630), (0, u "java/lang/StringUTF16$CharsSpliterator")] 4

def k13m0 : Method := { name := "<init>", desc := "()V", sig := { parameters := [], returnType := none }, accessFlags := 0, code := none }
def k13c1 : Code := { maxStack := 2, maxLocals := 2, code := jdk_52_method_15_code, exceptionTable := #[], attributes := #[] }
def k13m1 : Method := { name := "coderFromArrayLen", desc := "([BI)B", sig := { parameters := [(.array .byte), .int], returnType := some .byte }, accessFlags := 8, code := some k13c1 }
def k13c2 : Code := { maxStack := 5, maxLocals := 6, code := jdk_52_method_16_code, exceptionTable := #[], attributes := #[] }
def k13m2 : Method := { name := "compress", desc := "([CII)[B", sig := { parameters := [(.array .char), .int, .int], returnType := some (.array .byte) }, accessFlags := 9, code := some k13c2 }
def k13c3 : Code := { maxStack := 3, maxLocals := 7, code := jdk_52_method_21_code, exceptionTable := #[], attributes := #[] }
def k13m3 : Method := { name := "compress", desc := "([CI[BII)I", sig := { parameters := [(.array .char), .int, (.array .byte), .int, .int], returnType := some .int }, accessFlags := 9, code := some k13c3 }
/-- java/lang/StringUTF16 -/
def k13 : Class := { plain "java/lang/StringUTF16" (some 0) with
  accessFlags := 48
  interfaces := #[]
  cf := some (fileOf pool13 12 #[.nestMembers #[627, 629, 369]] #[{ accessFlags := 0, nameIndex := 9, descriptorIndex := 10, attributes := #[] }, { accessFlags := 8, nameIndex := 261, descriptorIndex := 262, attributes := #[] }, { accessFlags := 9, nameIndex := 117, descriptorIndex := 122, attributes := #[] }, { accessFlags := 9, nameIndex := 117, descriptorIndex := 118, attributes := #[] }] 48 6 #[] #[{ accessFlags := 26, nameIndex := 61, descriptorIndex := 62, attributes := #[] }, { accessFlags := 26, nameIndex := 65, descriptorIndex := 62, attributes := #[] }, { accessFlags := 24, nameIndex := 430, descriptorIndex := 62, attributes := #[] }, { accessFlags := 4120, nameIndex := 46, descriptorIndex := 47, attributes := #[] }])
  fields := #[{ name := "HI_BYTE_SHIFT", type := .int, accessFlags := 26, slot := 0, constantValue := 0 }, { name := "LO_BYTE_SHIFT", type := .int, accessFlags := 26, slot := 1, constantValue := 0 }, { name := "MAX_LENGTH", type := .int, accessFlags := 24, slot := 2, constantValue := 0 }, { name := "$assertionsDisabled", type := .boolean, accessFlags := 4120, slot := 3, constantValue := 0 }]
  methods := #[k13m0, k13m1, k13m2, k13m3]
  instanceTypes := #[]
  staticTypes := #[.int, .int, .int, .boolean]
  resolved := Array.replicate 635 none
  statics := none }

def pool14 : Array CpInfo := pool [(9, u "<init>"), (6, .class_ 18), (1, u "java/lang/Object"), (0, u "()V"), (1, .class_ 23), (1, u "jdk/internal/util/ArraysSupport"), (0, u "LOG2_ARRAY_LONG_INDEX_SCALE"), (0, u "I"), (2, u "U"), (0, u "Ljdk/internal/misc/Unsafe;"), (8, u "BIG_ENDIAN"), (0, u "Z"), (8, u "LOG2_BYTE_BIT_SIZE"), (4, u "LOG2_ARRAY_INT_INDEX_SCALE"), (54, u "JLA"), (0, u "Ljdk/internal/access/JavaLangAccess;"), (11, u "LOG2_ARRAY_BOOLEAN_INDEX_SCALE"), (9, u "LOG2_ARRAY_BYTE_INDEX_SCALE"), (5, u "LOG2_ARRAY_CHAR_INDEX_SCALE"), (5, u "LOG2_ARRAY_SHORT_INDEX_SCALE"), (18, u "LOG2_ARRAY_FLOAT_INDEX_SCALE"), (24, u "LOG2_ARRAY_DOUBLE_INDEX_SCALE"), (89, u "T_BOOLEAN"), (2, u "T_CHAR"), (1, u "T_FLOAT"), (1, u "T_DOUBLE"), (1, u "T_BYTE"), (1, u "T_SHORT"), (1, u "T_INT"), (1, u "T_LONG"), (1, u "SOFT_MAX_ARRAY_LENGTH")] 83

def k14m0 : Method := { name := "<init>", desc := "()V", sig := { parameters := [], returnType := none }, accessFlags := 2, code := none }
/-- jdk/internal/util/ArraysSupport -/
def k14 : Class := { plain "jdk/internal/util/ArraysSupport" (some 0) with
  accessFlags := 33
  interfaces := #[]
  cf := some (fileOf pool14 21 #[] #[{ accessFlags := 2, nameIndex := 9, descriptorIndex := 19, attributes := #[] }] 33 16 #[] #[{ accessFlags := 24, nameIndex := 28, descriptorIndex := 29, attributes := #[] }, { accessFlags := 26, nameIndex := 38, descriptorIndex := 39, attributes := #[] }, { accessFlags := 25, nameIndex := 121, descriptorIndex := 25, attributes := #[] }, { accessFlags := 25, nameIndex := 131, descriptorIndex := 25, attributes := #[] }, { accessFlags := 25, nameIndex := 137, descriptorIndex := 25, attributes := #[] }, { accessFlags := 25, nameIndex := 143, descriptorIndex := 25, attributes := #[] }, { accessFlags := 25, nameIndex := 53, descriptorIndex := 25, attributes := #[] }, { accessFlags := 25, nameIndex := 24, descriptorIndex := 25, attributes := #[] }, { accessFlags := 25, nameIndex := 162, descriptorIndex := 25, attributes := #[] }, { accessFlags := 25, nameIndex := 187, descriptorIndex := 25, attributes := #[] }, { accessFlags := 26, nameIndex := 48, descriptorIndex := 25, attributes := #[] }, { accessFlags := 25, nameIndex := 277, descriptorIndex := 25, attributes := #[] }, { accessFlags := 25, nameIndex := 280, descriptorIndex := 25, attributes := #[] }, { accessFlags := 25, nameIndex := 282, descriptorIndex := 25, attributes := #[] }, { accessFlags := 25, nameIndex := 284, descriptorIndex := 25, attributes := #[] }, { accessFlags := 25, nameIndex := 286, descriptorIndex := 25, attributes := #[] }, { accessFlags := 25, nameIndex := 288, descriptorIndex := 25, attributes := #[] }, { accessFlags := 25, nameIndex := 290, descriptorIndex := 25, attributes := #[] }, { accessFlags := 25, nameIndex := 292, descriptorIndex := 25, attributes := #[] }, { accessFlags := 26, nameIndex := 108, descriptorIndex := 109, attributes := #[] }, { accessFlags := 25, nameIndex := 294, descriptorIndex := 25, attributes := #[] }])
  fields := #[{ name := "U", type := (.object "jdk/internal/misc/Unsafe"), accessFlags := 24, slot := 0, constantValue := 0 }, { name := "BIG_ENDIAN", type := .boolean, accessFlags := 26, slot := 1, constantValue := 0 }, { name := "LOG2_ARRAY_BOOLEAN_INDEX_SCALE", type := .int, accessFlags := 25, slot := 2, constantValue := 0 }, { name := "LOG2_ARRAY_BYTE_INDEX_SCALE", type := .int, accessFlags := 25, slot := 3, constantValue := 0 }, { name := "LOG2_ARRAY_CHAR_INDEX_SCALE", type := .int, accessFlags := 25, slot := 4, constantValue := 0 }, { name := "LOG2_ARRAY_SHORT_INDEX_SCALE", type := .int, accessFlags := 25, slot := 5, constantValue := 0 }, { name := "LOG2_ARRAY_INT_INDEX_SCALE", type := .int, accessFlags := 25, slot := 6, constantValue := 0 }, { name := "LOG2_ARRAY_LONG_INDEX_SCALE", type := .int, accessFlags := 25, slot := 7, constantValue := 0 }, { name := "LOG2_ARRAY_FLOAT_INDEX_SCALE", type := .int, accessFlags := 25, slot := 8, constantValue := 0 }, { name := "LOG2_ARRAY_DOUBLE_INDEX_SCALE", type := .int, accessFlags := 25, slot := 9, constantValue := 0 }, { name := "LOG2_BYTE_BIT_SIZE", type := .int, accessFlags := 26, slot := 10, constantValue := 0 }, { name := "T_BOOLEAN", type := .int, accessFlags := 25, slot := 11, constantValue := 0 }, { name := "T_CHAR", type := .int, accessFlags := 25, slot := 12, constantValue := 0 }, { name := "T_FLOAT", type := .int, accessFlags := 25, slot := 13, constantValue := 0 }, { name := "T_DOUBLE", type := .int, accessFlags := 25, slot := 14, constantValue := 0 }, { name := "T_BYTE", type := .int, accessFlags := 25, slot := 15, constantValue := 0 }, { name := "T_SHORT", type := .int, accessFlags := 25, slot := 16, constantValue := 0 }, { name := "T_INT", type := .int, accessFlags := 25, slot := 17, constantValue := 0 }, { name := "T_LONG", type := .int, accessFlags := 25, slot := 18, constantValue := 0 }, { name := "JLA", type := (.object "jdk/internal/access/JavaLangAccess"), accessFlags := 26, slot := 19, constantValue := 0 }, { name := "SOFT_MAX_ARRAY_LENGTH", type := .int, accessFlags := 25, slot := 20, constantValue := 0 }]
  methods := #[k14m0]
  instanceTypes := #[]
  staticTypes := #[(.object "jdk/internal/misc/Unsafe"), .boolean, .int, .int, .int, .int, .int, .int, .int, .int, .int, .int, .int, .int, .int, .int, .int, .int, .int, (.object "jdk/internal/access/JavaLangAccess"), .int]
  resolved := Array.replicate 378 none
  statics := none }

def pool15 : Array CpInfo := pool [(1, u "java/lang/Cloneable"), (0, .class_ 1), (0, u "java/lang/Object"), (0, .class_ 3)] 3

/-- java/lang/Cloneable -/
def k15 : Class := { plain "java/lang/Cloneable" (some 0) with
  accessFlags := 1537
  interfaces := #[]
  cf := some (fileOf pool15 2 #[] #[] 1537 4 #[] #[])
  fields := #[]
  methods := #[]
  instanceTypes := #[]
  staticTypes := #[]
  resolved := Array.replicate 8 none
  statics := none }

/-- the primitive byte -/
def k16 : Class := { plain "byte" none with kind := .primitive 'B', accessFlags := 0x411 }
/-- [B -/
def k17 : Class := { plain "[B" (some 0) with kind := .array 16 .byte, interfaces := #[15, 2], accessFlags := 1041 }

/-- the primitive char -/
def k18 : Class := { plain "char" none with kind := .primitive 'C', accessFlags := 0x411 }
/-- [C -/
def k19 : Class := { plain "[C" (some 0) with kind := .array 18 .char, interfaces := #[15, 2], accessFlags := 1041 }

/-- the primitive int -/
def k20 : Class := { plain "int" none with kind := .primitive 'I', accessFlags := 0x411 }
/-- [I -/
def k21 : Class := { plain "[I" (some 0) with kind := .array 20 .int, interfaces := #[15, 2], accessFlags := 1041 }

def heap : Heap := #[{ cls := 7, slots := #[.long 0, .int 1, .null, .int 0, .null, .int 0, .int 0], vm := .statics 7 },
  { cls := 12, slots := #[.null, .null, .null], vm := .statics 12 }]
def classes : Array Class := #[k0, k1, k2, k3, k4, k5, k6, k7, k8, k9, k10, k11, k12, k13, k14, k15, k16, k17, k18, k19, k20, k21]
def interned : List (Array UInt16 × Addr) := []
def slotsUsed : Nat := 10
def theMethod : MethodId := ⟨1, 2⟩
def args0 : Array Value := #[.int 5, .int 6, .int 7, .int 9, .int 3]
def aboutOver (below : List Frame) : State where
  vm := { classes := classes, interned := interned.toArray }
  heap := heap
  slotsUsed := slotsUsed
  threads := #[{ frames := .invoking theMethod args0 :: below }]
def below0 : List Frame := [.native { method := ⟨0, 0⟩, args := #[] }]
def about1 : State := aboutOver below0
def p0 : Program := .bare "" "" ""
def e0 : Env := launch0.env 0 0 0
theorem w_frames : about1.frames = Frame.invoking theMethod args0 :: below0 := rfl
set_option maxRecDepth 65536 in
theorem w_args : argsFit about1.vm theMethod args0 = true := by decide +kernel
set_option maxRecDepth 65536 in
theorem w_heap : heapFits about1 = true := by decide +kernel
set_option maxRecDepth 65536 in
theorem w_runnable : about1.curStatus? = some .runnable := by decide +kernel
set_option maxRecDepth 65536 in
theorem w_alone : about1.alone = true := by decide +kernel
set_option maxRecDepth 65536 in
theorem w_named : about1.methodNamed? x = some theMethod := by decide +kernel
set_option maxRecDepth 65536 in
theorem w_hears : about1.hears theMethod below0 = true := by decide +kernel
set_option maxRecDepth 65536 in
theorem w_ripe : about1.ripe theMethod args0 below0 = true := by decide +kernel
theorem w_running : about1.status = .running := rfl
set_option maxRecDepth 65536 in
theorem w_room : about1.hasRoom e0.platform room_1 = true :=
  launch0.hasRoom_least _ room_1 (by decide +kernel) (by decide +kernel) (by decide +kernel) (by decide +kernel) (by decide +kernel) (by decide +kernel)
theorem allAtoms_all (ts : List Jvm.Cond) (a : Array Jvm.Value) (st : Jvm.State) : (allAtoms ts).before a st = ts.all (fun c => c.before a st) := by
  induction ts with
  | nil => rfl
  | cons c t ih =>
    show (Jvm.Cond.and c (allAtoms t)).before a st = _
    rw [Jvm.Cond.before_and, ih, List.all_cons]
def words1 : List Jvm.Cond := Jvm.Cond.code x code maxLocals ret :: tables_1
/-- a 'code' word, met by the world's own term for the bytes: nothing is compared byte by byte -/
theorem code_word {y : MethodName} {bytes : ByteArray} {mx : Nat} {rt : Option FieldType} {a : Array Value} {s : State} {m : MethodId} {meth : Method} {c : Code} (h1 : s.methodNamed? y = some m) (h2 : s.vm.method? m = some meth) (h3 : meth.code = some c) (h4 : c.code = bytes)
    (h5 : (c.maxLocals == mx && c.exceptionTable.isEmpty && decide (c.maxStack ≤ mostOperands) && decide (meth.sig.returnType = rt) && !meth.locks && decide (parseMethodDescriptor y.desc = some meth.sig)) = true) : (Jvm.Cond.code y bytes mx rt).before a s = true := by
  simp only [Bool.and_eq_true, beq_iff_eq, Bool.not_eq_true', decide_eq_true_eq] at h5
  obtain ⟨⟨⟨⟨⟨g1, g2⟩, g3⟩, g4⟩, g5⟩, g6⟩ := h5
  simp [Cond.before, Cond.holds, Cond.value, h1, h2, h3, h4, g1, g2, g3, g4, g5, g6]
def isCode : Jvm.Cond → Bool
  | .code _ _ _ _ => true
  | _ => false
theorem all_split {L : List Jvm.Cond} {P : Jvm.Cond → Bool} (h1 : L.all (fun c => isCode c || P c) = true) (h2 : ∀ c ∈ L.filter isCode, P c = true) : L.all P = true := by
  refine List.all_eq_true.mpr fun c hc => ?_
  have h := List.all_eq_true.mp h1 c hc
  rcases Bool.eq_false_or_eq_true (isCode c) with hi | hi
  · exact h2 c (List.mem_filter.mpr ⟨hc, hi⟩)
  · simpa [hi] using h
set_option maxRecDepth 65536 in
theorem w_c0 : (Jvm.Cond.code x code maxLocals ret).before args0 about1 = true := code_word (m := ⟨1, 2⟩) (meth := k1m2) (c := k1c2) (by decide +kernel) rfl rfl rfl (by decide +kernel)
set_option maxRecDepth 65536 in
theorem w_c1 : (Jvm.Cond.code ({ cls := "com/example/ticks_into_totals/ticksintototals/CounterName", name := "checkToken", desc := "(Ljava/lang/String;Ljava/lang/String;)Ljava/lang/String;" } : Jvm.MethodName) prog_3_method_4_code (2 : Nat) (Option.some (Jvm.ClassFile.FieldType.object "java/lang/String"))).before args0 about1 = true := code_word (m := ⟨9, 0⟩) (meth := k9m0) (c := k9c0) (by decide +kernel) rfl rfl rfl (by decide +kernel)
set_option maxRecDepth 65536 in
theorem w_c2 : (Jvm.Cond.code ({ cls := "java/util/Objects", name := "requireNonNull", desc := "(Ljava/lang/Object;Ljava/lang/String;)Ljava/lang/Object;" } : Jvm.MethodName) jdk_31_method_11_code (2 : Nat) (Option.some (Jvm.ClassFile.FieldType.object "java/lang/Object"))).before args0 about1 = true := code_word (m := ⟨10, 1⟩) (meth := k10m1) (c := k10c1) (by decide +kernel) rfl rfl rfl (by decide +kernel)
set_option maxRecDepth 65536 in
theorem w_c3 : (Jvm.Cond.code ({ cls := "java/lang/String", name := "isEmpty", desc := "()Z" } : Jvm.MethodName) jdk_42_method_55_code (1 : Nat) (Option.some Jvm.ClassFile.FieldType.boolean)).before args0 about1 = true := code_word (m := ⟨7, 3⟩) (meth := k7m3) (c := k7c3) (by decide +kernel) rfl rfl rfl (by decide +kernel)
set_option maxRecDepth 65536 in
theorem w_c4 : (Jvm.Cond.code ({ cls := "java/lang/String", name := "length", desc := "()I" } : Jvm.MethodName) jdk_42_method_54_code (1 : Nat) (Option.some Jvm.ClassFile.FieldType.int)).before args0 about1 = true := code_word (m := ⟨7, 2⟩) (meth := k7m2) (c := k7c2) (by decide +kernel) rfl rfl rfl (by decide +kernel)
set_option maxRecDepth 65536 in
theorem w_c5 : (Jvm.Cond.code ({ cls := "java/lang/String", name := "coder", desc := "()B" } : Jvm.MethodName) jdk_42_method_152_code (1 : Nat) (Option.some Jvm.ClassFile.FieldType.byte)).before args0 about1 = true := code_word (m := ⟨7, 6⟩) (meth := k7m6) (c := k7c6) (by decide +kernel) rfl rfl rfl (by decide +kernel)
set_option maxRecDepth 65536 in
theorem w_c6 : (Jvm.Cond.code ({ cls := "com/example/ticks_into_totals/ticksintototals/CounterName", name := "isToken", desc := "(Ljava/lang/String;)Z" } : Jvm.MethodName) prog_3_method_5_code (2 : Nat) (Option.some Jvm.ClassFile.FieldType.boolean)).before args0 about1 = true := code_word (m := ⟨9, 1⟩) (meth := k9m1) (c := k9c1) (by decide +kernel) rfl rfl rfl (by decide +kernel)
set_option maxRecDepth 65536 in
theorem w_c7 : (Jvm.Cond.code ({ cls := "java/lang/String", name := "charAt", desc := "(I)C" } : Jvm.MethodName) jdk_42_method_56_code (2 : Nat) (Option.some Jvm.ClassFile.FieldType.char)).before args0 about1 = true := code_word (m := ⟨7, 4⟩) (meth := k7m4) (c := k7c4) (by decide +kernel) rfl rfl rfl (by decide +kernel)
set_option maxRecDepth 65536 in
theorem w_c8 : (Jvm.Cond.code ({ cls := "java/lang/String", name := "isLatin1", desc := "()Z" } : Jvm.MethodName) jdk_42_method_154_code (1 : Nat) (Option.some Jvm.ClassFile.FieldType.boolean)).before args0 about1 = true := code_word (m := ⟨7, 7⟩) (meth := k7m7) (c := k7c7) (by decide +kernel) rfl rfl rfl (by decide +kernel)
set_option maxRecDepth 65536 in
theorem w_c9 : (Jvm.Cond.code ({ cls := "java/lang/StringLatin1", name := "charAt", desc := "([BI)C" } : Jvm.MethodName) jdk_43_method_2_code (2 : Nat) (Option.some Jvm.ClassFile.FieldType.char)).before args0 about1 = true := code_word (m := ⟨11, 1⟩) (meth := k11m1) (c := k11c1) (by decide +kernel) rfl rfl rfl (by decide +kernel)
set_option maxRecDepth 65536 in
theorem w_c10 : (Jvm.Cond.code ({ cls := "java/lang/String", name := "checkIndex", desc := "(II)V" } : Jvm.MethodName) jdk_42_method_155_code (2 : Nat) (Option.none : Option Jvm.ClassFile.FieldType)).before args0 about1 = true := code_word (m := ⟨7, 8⟩) (meth := k7m8) (c := k7c8) (by decide +kernel) rfl rfl rfl (by decide +kernel)
set_option maxRecDepth 65536 in
theorem w_c11 : (Jvm.Cond.code ({ cls := "jdk/internal/util/Preconditions", name := "checkIndex", desc := "(IILjava/util/function/BiFunction;)I" } : Jvm.MethodName) jdk_41_method_11_code (3 : Nat) (Option.some Jvm.ClassFile.FieldType.int)).before args0 about1 = true := code_word (m := ⟨12, 1⟩) (meth := k12m1) (c := k12c1) (by decide +kernel) rfl rfl rfl (by decide +kernel)
set_option maxRecDepth 65536 in
theorem w_c12 : (Jvm.Cond.code ({ cls := "com/example/ticks_into_totals/ticksintototals/CounterName", name := "isTokenChar", desc := "(C)Z" } : Jvm.MethodName) prog_3_method_6_code (1 : Nat) (Option.some Jvm.ClassFile.FieldType.boolean)).before args0 about1 = true := code_word (m := ⟨9, 2⟩) (meth := k9m2) (c := k9c2) (by decide +kernel) rfl rfl rfl (by decide +kernel)
set_option maxRecDepth 65536 in
theorem w_c13 : (Jvm.Cond.code ({ cls := "com/example/ticks_into_totals/ticksintototals/CounterNameCheckTokenPinLaw", name := "tokenChar", desc := "(I)C" } : Jvm.MethodName) method_2_code (2 : Nat) (Option.some Jvm.ClassFile.FieldType.char)).before args0 about1 = true := code_word (m := ⟨1, 1⟩) (meth := k1m1) (c := k1c1) (by decide +kernel) rfl rfl rfl (by decide +kernel)
set_option maxRecDepth 65536 in
theorem w_c14 : (Jvm.Cond.code ({ cls := "java/lang/String", name := "<init>", desc := "([C)V" } : Jvm.MethodName) jdk_42_method_3_code (2 : Nat) (Option.none : Option Jvm.ClassFile.FieldType)).before args0 about1 = true := code_word (m := ⟨7, 1⟩) (meth := k7m1) (c := k7c1) (by decide +kernel) rfl rfl rfl (by decide +kernel)
set_option maxRecDepth 65536 in
theorem w_c15 : (Jvm.Cond.code ({ cls := "java/lang/String", name := "<init>", desc := "([CIILjava/lang/Void;)V" } : Jvm.MethodName) jdk_42_method_149_code (6 : Nat) (Option.none : Option Jvm.ClassFile.FieldType)).before args0 about1 = true := code_word (m := ⟨7, 5⟩) (meth := k7m5) (c := k7c5) (by decide +kernel) rfl rfl rfl (by decide +kernel)
set_option maxRecDepth 65536 in
theorem w_c16 : (Jvm.Cond.code ({ cls := "java/lang/Object", name := "<init>", desc := "()V" } : Jvm.MethodName) object_method_1_code (1 : Nat) (Option.none : Option Jvm.ClassFile.FieldType)).before args0 about1 = true := code_word (m := ⟨0, 0⟩) (meth := k0m0) (c := k0c0) (by decide +kernel) rfl rfl rfl (by decide +kernel)
set_option maxRecDepth 65536 in
theorem w_c17 : (Jvm.Cond.code ({ cls := "java/lang/StringUTF16", name := "compress", desc := "([CII)[B" } : Jvm.MethodName) jdk_52_method_16_code (6 : Nat) (Option.some (Jvm.ClassFile.FieldType.array Jvm.ClassFile.FieldType.byte))).before args0 about1 = true := code_word (m := ⟨13, 2⟩) (meth := k13m2) (c := k13c2) (by decide +kernel) rfl rfl rfl (by decide +kernel)
set_option maxRecDepth 65536 in
theorem w_c18 : (Jvm.Cond.code ({ cls := "java/lang/StringUTF16", name := "compress", desc := "([CI[BII)I" } : Jvm.MethodName) jdk_52_method_21_code (7 : Nat) (Option.some Jvm.ClassFile.FieldType.int)).before args0 about1 = true := code_word (m := ⟨13, 3⟩) (meth := k13m3) (c := k13c3) (by decide +kernel) rfl rfl rfl (by decide +kernel)
set_option maxRecDepth 65536 in
theorem w_c19 : (Jvm.Cond.code ({ cls := "java/lang/StringUTF16", name := "coderFromArrayLen", desc := "([BI)B" } : Jvm.MethodName) jdk_52_method_15_code (2 : Nat) (Option.some Jvm.ClassFile.FieldType.byte)).before args0 about1 = true := code_word (m := ⟨13, 1⟩) (meth := k13m1) (c := k13c1) (by decide +kernel) rfl rfl rfl (by decide +kernel)
def codes1 : List Jvm.Cond := [Jvm.Cond.code x code maxLocals ret, Jvm.Cond.code ({ cls := "com/example/ticks_into_totals/ticksintototals/CounterName", name := "checkToken", desc := "(Ljava/lang/String;Ljava/lang/String;)Ljava/lang/String;" } : Jvm.MethodName) prog_3_method_4_code (2 : Nat) (Option.some (Jvm.ClassFile.FieldType.object "java/lang/String")), Jvm.Cond.code ({ cls := "java/util/Objects", name := "requireNonNull", desc := "(Ljava/lang/Object;Ljava/lang/String;)Ljava/lang/Object;" } : Jvm.MethodName) jdk_31_method_11_code (2 : Nat) (Option.some (Jvm.ClassFile.FieldType.object "java/lang/Object")), Jvm.Cond.code ({ cls := "java/lang/String", name := "isEmpty", desc := "()Z" } : Jvm.MethodName) jdk_42_method_55_code (1 : Nat) (Option.some Jvm.ClassFile.FieldType.boolean), Jvm.Cond.code ({ cls := "java/lang/String", name := "length", desc := "()I" } : Jvm.MethodName) jdk_42_method_54_code (1 : Nat) (Option.some Jvm.ClassFile.FieldType.int), Jvm.Cond.code ({ cls := "java/lang/String", name := "coder", desc := "()B" } : Jvm.MethodName) jdk_42_method_152_code (1 : Nat) (Option.some Jvm.ClassFile.FieldType.byte), Jvm.Cond.code ({ cls := "com/example/ticks_into_totals/ticksintototals/CounterName", name := "isToken", desc := "(Ljava/lang/String;)Z" } : Jvm.MethodName) prog_3_method_5_code (2 : Nat) (Option.some Jvm.ClassFile.FieldType.boolean), Jvm.Cond.code ({ cls := "java/lang/String", name := "charAt", desc := "(I)C" } : Jvm.MethodName) jdk_42_method_56_code (2 : Nat) (Option.some Jvm.ClassFile.FieldType.char), Jvm.Cond.code ({ cls := "java/lang/String", name := "isLatin1", desc := "()Z" } : Jvm.MethodName) jdk_42_method_154_code (1 : Nat) (Option.some Jvm.ClassFile.FieldType.boolean), Jvm.Cond.code ({ cls := "java/lang/StringLatin1", name := "charAt", desc := "([BI)C" } : Jvm.MethodName) jdk_43_method_2_code (2 : Nat) (Option.some Jvm.ClassFile.FieldType.char), Jvm.Cond.code ({ cls := "java/lang/String", name := "checkIndex", desc := "(II)V" } : Jvm.MethodName) jdk_42_method_155_code (2 : Nat) (Option.none : Option Jvm.ClassFile.FieldType), Jvm.Cond.code ({ cls := "jdk/internal/util/Preconditions", name := "checkIndex", desc := "(IILjava/util/function/BiFunction;)I" } : Jvm.MethodName) jdk_41_method_11_code (3 : Nat) (Option.some Jvm.ClassFile.FieldType.int), Jvm.Cond.code ({ cls := "com/example/ticks_into_totals/ticksintototals/CounterName", name := "isTokenChar", desc := "(C)Z" } : Jvm.MethodName) prog_3_method_6_code (1 : Nat) (Option.some Jvm.ClassFile.FieldType.boolean), Jvm.Cond.code ({ cls := "com/example/ticks_into_totals/ticksintototals/CounterNameCheckTokenPinLaw", name := "tokenChar", desc := "(I)C" } : Jvm.MethodName) method_2_code (2 : Nat) (Option.some Jvm.ClassFile.FieldType.char), Jvm.Cond.code ({ cls := "java/lang/String", name := "<init>", desc := "([C)V" } : Jvm.MethodName) jdk_42_method_3_code (2 : Nat) (Option.none : Option Jvm.ClassFile.FieldType), Jvm.Cond.code ({ cls := "java/lang/String", name := "<init>", desc := "([CIILjava/lang/Void;)V" } : Jvm.MethodName) jdk_42_method_149_code (6 : Nat) (Option.none : Option Jvm.ClassFile.FieldType), Jvm.Cond.code ({ cls := "java/lang/Object", name := "<init>", desc := "()V" } : Jvm.MethodName) object_method_1_code (1 : Nat) (Option.none : Option Jvm.ClassFile.FieldType), Jvm.Cond.code ({ cls := "java/lang/StringUTF16", name := "compress", desc := "([CII)[B" } : Jvm.MethodName) jdk_52_method_16_code (6 : Nat) (Option.some (Jvm.ClassFile.FieldType.array Jvm.ClassFile.FieldType.byte)), Jvm.Cond.code ({ cls := "java/lang/StringUTF16", name := "compress", desc := "([CI[BII)I" } : Jvm.MethodName) jdk_52_method_21_code (7 : Nat) (Option.some Jvm.ClassFile.FieldType.int), Jvm.Cond.code ({ cls := "java/lang/StringUTF16", name := "coderFromArrayLen", desc := "([BI)B" } : Jvm.MethodName) jdk_52_method_15_code (2 : Nat) (Option.some Jvm.ClassFile.FieldType.byte)]
set_option maxRecDepth 65536 in
theorem codes_eq : words1.filter isCode = codes1 := rfl
theorem w_codes : ∀ c ∈ words1.filter isCode, c.before args0 about1 = true := by
  rw [codes_eq]
  intro c hc
  simp only [codes1, List.mem_cons, List.not_mem_nil, or_false] at hc
  rcases hc with rfl | rfl | rfl | rfl | rfl | rfl | rfl | rfl | rfl | rfl | rfl | rfl | rfl | rfl | rfl | rfl | rfl | rfl | rfl | rfl
  · exact w_c0
  · exact w_c1
  · exact w_c2
  · exact w_c3
  · exact w_c4
  · exact w_c5
  · exact w_c6
  · exact w_c7
  · exact w_c8
  · exact w_c9
  · exact w_c10
  · exact w_c11
  · exact w_c12
  · exact w_c13
  · exact w_c14
  · exact w_c15
  · exact w_c16
  · exact w_c17
  · exact w_c18
  · exact w_c19
set_option maxRecDepth 65536 in
theorem w_t1 : (words1.take 24).all (fun c => isCode c || c.before args0 about1) = true := by decide +kernel
set_option maxRecDepth 65536 in
theorem w_t2 : ((words1.drop 24).take 24).all (fun c => isCode c || c.before args0 about1) = true := by decide +kernel
set_option maxRecDepth 65536 in
theorem w_t3 : (((words1.drop 24).drop 24).take 24).all (fun c => isCode c || c.before args0 about1) = true := by decide +kernel
set_option maxRecDepth 65536 in
theorem w_t4 : (((words1.drop 24).drop 24).drop 24).all (fun c => isCode c || c.before args0 about1) = true := by decide +kernel
theorem w_tables : (allAtoms (Jvm.Cond.code x code maxLocals ret :: tables_1)).before args0 about1 = true := by
  rw [allAtoms_all]
  show words1.all (fun c => c.before args0 about1) = true
  refine all_split ?_ w_codes
  rw [← List.take_append_drop 24 words1, List.all_append, w_t1, ← List.take_append_drop 24 (words1.drop 24), List.all_append, w_t2, ← List.take_append_drop 24 ((words1.drop 24).drop 24), List.all_append, w_t3, w_t4]
  rfl
set_option maxRecDepth 65536 in
theorem w_rest : rest_1_c.before args0 about1 = true := by decide +kernel
set_option maxRecDepth 65536 in
theorem w_case : (Jvm.Cond.and given_1 narrow_1).before args0 about1 = true := by decide +kernel
set_option maxRecDepth 65536 in
theorem w_consts : constsHeld consts_1 about1 := Jvm.Lit.constsHeldB_iff.mp (by decide +kernel)
theorem w_applies : (headSpec (Jvm.Cond.code x code maxLocals ret :: tables_1) room_1).applies x e0.platform about1 = true :=
  (Spec.applies_iff w_frames).mpr ⟨w_running, w_runnable, w_alone, w_named, w_hears, w_ripe, w_room, w_tables⟩
theorem atStart : AtStart classFile x code maxLocals ret World_1 tables_1 room_1 Calls_1 rest_1 Pre_1 launch0 p0 e0 about1 theMethod args0 below0 :=
  ⟨lists_1, trivial, launch0.admits_env _ _ _, launch0.least_env, fairChoices_fair.cas, fairChoices_fair.clock, w_frames, w_args, w_heap, w_applies, ⟨w_consts, trivial⟩, w_rest, w_case⟩
end start1
theorem witness_1 : WitnessClaimed_1 := ⟨start1.p0, start1.e0, start1.about1, start1.theMethod, start1.args0, start1.below0, start1.atStart⟩
end Jvm.Pilot.@@N@@
