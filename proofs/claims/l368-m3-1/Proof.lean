import JvmDerived
import JvmDerived.Pilot.@@N@@Statement
import JvmDerived.Pilot.@@N@@Code
set_option linter.unusedVariables false
set_option linter.unusedSimpArgs false


namespace Jvm.RoadKit
open Sem ClassFile Op Lib Jvm.Stand Jvm.Free Jvm.LawKit
section Own
variable {Z : State} {h h0 h' : Heap} {a b : Addr} {k : ClassId} {n j : Int32} {vs : List Value} {dv : Value}
theorem Arv.inb {ty : FieldType} (A : Arv Z h a k ty n vs dv) (h1 : ¬ j < 0) (h2 : j < n) : ∃ c, Arr Z h a c ty ∧ c.cls = k ∧ c.slots.size = n.toNatClampNeg ∧ ¬ n < 0 ∧ Has c vs dv ∧ (∀ i, i < c.slots.size → fits ty (vs.getD i dv) = true) ∧ ¬ (j < 0 ∨ c.slots.size ≤ j.toNatClampNeg) := by
  obtain ⟨c, A1, A2, A3, A4, A5, A6⟩ := A
  exact ⟨c, A1, A2, A3, A4, A5, A6, inb_of A3 ⟨h1, h2⟩⟩
theorem Ext.keepN (E : Ext h0 h) (K : Keep h h' [b]) (q : h0.size ≤ b) : Ext h0 h' := ⟨Nat.le_trans E.1 K.1, fun x c hx => K.2.1 x c (E.2 x c hx) fun z => by
  cases List.mem_singleton.mp z
  exact absurd (Array.getElem?_eq_some_iff.mp hx).1 (Nat.not_lt.mpr q)⟩
theorem Ext.keepL {ws : List Addr} (E : Ext h0 h) (K : Keep h h' ws) (q : ∀ x ∈ ws, h0.size ≤ x) : Ext h0 h' := ⟨Nat.le_trans E.1 K.1, fun x c hx => K.2.1 x c (E.2 x c hx) fun z => absurd (Array.getElem?_eq_some_iff.mp hx).1 (Nat.not_lt.mpr (q x z))⟩
theorem Ext.rfl' : Ext h h := ⟨Nat.le_refl _, fun _ _ q => q⟩
theorem Ext.tr {h1 : Heap} (E : Ext h h1) (E' : Ext h1 h') : Ext h h' := ⟨Nat.le_trans E.1 E'.1, fun x c q => E'.2 x c (E.2 x c q)⟩
theorem Ext.wrN {sl : Nat} {v : Value} (E : Ext h0 h) (W : Wr h h' a sl v) (q : h0.size ≤ a) : Ext h0 h' := E.keepN (Keep.of_wr W) q
end Own
end Jvm.RoadKit

namespace Jvm.OwnKit
open Sem ClassFile Op Lib Jvm.Stand Jvm.Free Jvm.LawKit Jvm.RoadKit
/-- the String constants that the walk has loaded, each with its object (none: not kept) -/
abbrev Sg : Type := Option (List (String × Nat × String × Addr))
def VOk (Z : State) (vm : Vm) : Sg → Prop
  | none => True
  | some L => IB Z vm (L.map fun q => q.2.2.1) ∧ ∀ q ∈ L, Lit (Z.setVm vm) q.1 q.2.1 q.2.2.2
theorem VOk.warm {Z s : State} {vm0 vm1 : Vm} {σ : Sg} (V : VOk Z vm0 σ) (hW : (s.setVm vm0).WarmedH vm1) : VOk Z vm1 σ := by
  cases σ with
  | none => trivial
  | some L =>
    obtain ⟨⟨more, e, hm⟩, hl⟩ := V
    refine ⟨⟨more, ?_, hm⟩, fun q hq => ?_⟩
    · rw [hW.interned_eq]; exact e
    · have h1 : Lit (s.setVm vm0) q.1 q.2.1 q.2.2.2 := hl q hq
      exact Lit.stays h1 hW.wide
/-- the unsigned shifts, the comparing of longs, as the machine spells them -/
abbrev ushr (x y : Int32) : Int32 := (x.toUInt32 >>> (y &&& 31).toUInt32).toInt32
abbrev ushrL (x : Int64) (y : Int32) : Int64 := (x.toUInt64 >>> (y &&& 63).toInt64.toUInt64).toInt64
abbrev cmpL (x y : Int64) : Int32 := if x > y then 1 else if x = y then 0 else -1
/-- the data of one walk of one body -/
abbrev Cx : Type := Program × Launch × Env × Room × State × MethodId × Array Value × List Frame × Method × Code × State × Nat × (Option Value → Heap → Sg → Prop)
/-- from this pc, these locals, this stack and this heap the body comes to its end as promised -/
def Go : Cx → Sg → Heap → Nat → Nat → Nat → Array Slot → List Value → Prop
  | (p, l, e, R, s, m, args, below, meth, c, Z, n0, Q), σ, h, ce, sl, pc, ls, st =>
    ∀ (vm0 : Vm) (k0 : Nat) (T : State) (locs : List Loc), Stand p l e R (s.setVm vm0) m args below meth c T locs ce sl → s.Since vm0 k0 → k0 ≤ h.size → VOk Z vm0 σ → Old Z n0 h → T.heap = h → Fr n0 locs →
      ∃ (s₂ : State) (o : Outcome), Steps p.tables e below (T.setTop (mkF m pc ls st)) s₂ ∧ s₂.status = .running ∧ Ended s₂ below o ∧
        ∃ (v : Option Value) (L : List Loc) (σ' : Sg), o = .returned v ∧ (Fr n0 L ∧ VOk Z s₂.vm σ' ∧ Old Z n0 s₂.heap ∧ Q v s₂.heap σ') ∧ ReturnedEndW s o s₂ L R.cells R.slots
/-- what is known of a walk's data -/
def Amb : Cx → Launch → State → MethodName → ByteArray → Nat → Option FieldType → Room → Heap → Nat → (Option Value → Heap → Sg → Prop) → Prop
  | (p, l', e, R, s, m, args, below, meth, c, Z', n0', Q'), l, Z, y, code, maxL, ret, rm, h0, n0, Q =>
    l' = l ∧ R = rm ∧ Z' = Z ∧ n0' = n0 ∧ (∀ v h σ, Q v h σ → Q' v h σ) ∧ p.tables.exec = Jvm.exec ∧ Z.Warmed39 s.vm ∧ s.vm.findClass y.cls = some m.cls ∧ c.code = code ∧ c.maxLocals = maxL ∧ meth.sig.returnType = ret ∧ meth.locks = false ∧ meth.name = y.name ∧ s.heap = h0
/-- a body's contract -/
def Con (l : Launch) (Z : State) (y : MethodName) (code : ByteArray) (maxL : Nat) (ret : Option FieldType) (rm : Room) (ws : List Jvm.Cond) (as : Array Value) (σ : Sg) (h0 : Heap) (n0 : Nat) (Q : Option Value → Heap → Sg → Prop) : Prop :=
  MetFree l y (head1 (Jvm.Cond.code y code maxL ret :: ws) rm) (fun a U => a = as ∧ Z.Warmed39 U.vm ∧ U.heap = h0 ∧ VOk Z U.vm σ ∧ Old Z n0 U.heap) (fun _ _ _ _ _ => True)
    (fun _ U o U' => ∃ v L σ', o = .returned v ∧ (Fr n0 L ∧ VOk Z U'.vm σ' ∧ Old Z n0 U'.heap ∧ Q v U'.heap σ') ∧ ReturnedEndW U o U' L rm.cells rm.slots)
section Rules
variable {κ : Cx} {l : Launch} {Z : State} {y : MethodName} {code : ByteArray} {maxL : Nat} {ret : Option FieldType} {rm : Room} {ws : List Jvm.Cond} {as a0 : Array Value} {σ : Sg} {h h0 h' : Heap} {n0 : Nat} {Q Q' : Option Value → Heap → Sg → Prop} {ce sl ce' sl' pc pc' pc2 : Nat} {ls ls' : Array Slot} {st st' rest : List Value}
theorem Con.of_go (hpl : plainFor y = true) (hef : ∀ m, entryFrame m as maxL = mkF m 0 ls []) (H : ∀ κ : Cx, Amb κ l Z y code maxL ret rm h0 n0 Q → Go κ σ h0 0 0 0 ls []) : Con l Z y code maxL ret rm ws as σ h0 n0 Q := by
  refine MetFree.of_bodySF hpl hisR ?_
  intro p e s m args below meth c s₁ Bd hml0 hP hK
  obtain ⟨rfl, hZ, hh, hV, hO⟩ := hP
  have X0 : Stand p l e rm s m args below meth c s₁ [] 0 0 := Stand.of_body Bd
  have e0 : s₁.heap = h0 := by rw [← hh, Bd.state]; rfl
  obtain ⟨s₂, o, hst, hr, he, hq⟩ := H (p, l, e, rm, s, m, args, below, meth, c, Z, n0, Q) ⟨rfl, rfl, rfl, rfl, fun _ _ _ q => q, Bd.exec, hZ, findClass_of_methodNamed Bd.named, Bd.bytes, hml0, Bd.returns, BodyLoose.notSynchronized Bd, (name_of_methodNamed Bd.named Bd.method).1, hh⟩ s.vm h0.size s₁ [] X0 ((State.WarmedH.refl s).since _) (Nat.le_refl _) hV (hh ▸ hO) e0 (Fr.nil _)
  exact ⟨s₂, o, castTop (hef m) hst, hr, he, hq⟩
theorem Con.mono (M : Con l Z y code maxL ret rm ws as σ h0 n0 Q) (hq : ∀ v h σ, Q v h σ → Q' v h σ) : Con l Z y code maxL ret rm ws as σ h0 n0 Q' := by
  intro p e a1 a2 a3 s m args below a4 a5 a6 a7
  obtain ⟨n, o, b1, b2, b3, v, L, σ', b4, b5, b6⟩ := M p e a1 a2 a3 s m args below a4 a5 a6 a7
  exact ⟨n, o, b1, b2, b3, v, L, σ', b4, ⟨b5.1, b5.2.1, b5.2.2.1, hq _ _ _ b5.2.2.2⟩, b6⟩
theorem Go.pure (D : Amb κ l Z y code maxL ret rm h0 n0 Q)
    (f : ∀ (p : Program) (e : Env) (below : List Frame) (T t : State) (m : MethodId) (c : Code), p.tables.exec = Jvm.exec → c.code = code → At T m c below → Steps p.tables e below (T.setTop (mkF m pc' ls' st')) t → Steps p.tables e below (T.setTop (mkF m pc ls st)) t)
    (G : Go κ σ h ce sl pc' ls' st') : Go κ σ h ce sl pc ls st := by
  obtain ⟨p, l', e, R, s, m, args, below, meth, c, Z', n0', Q'⟩ := κ
  obtain ⟨rfl, rfl, rfl, rfl, hQ, hx, hZ, hown, hby, hml, hret, hlk, hnm, hh⟩ := D
  intro vm0 k0 T locs X hS hk V O eT N
  obtain ⟨s₂, o, h1, h2⟩ := G vm0 k0 T locs X hS hk V O eT N
  exact ⟨s₂, o, f p e below T s₂ m c hx hby X.here h1, h2⟩
/-- a step that asks the walk's standing, the heap as it was -/
theorem Go.calm (D : Amb κ l Z y code maxL ret rm h0 n0 Q)
    (f : ∀ (p : Program) (e : Env) (s : State) (m : MethodId) (args : Array Value) (below : List Frame) (meth : Method) (c : Code) (T : State) (locs : List Loc), p.tables.exec = Jvm.exec → Z.Warmed39 s.vm → s.vm.findClass y.cls = some m.cls → c.code = code → c.maxLocals = maxL → s.heap = h0 → Stand p l e rm s m args below meth c T locs ce sl → T.heap = h → ∃ T', Stand p l e rm s m args below meth c T' locs ce sl ∧ T'.heap = h ∧ ∀ t, Steps p.tables e below (T'.setTop (mkF m pc' ls' st')) t → Steps p.tables e below (T.setTop (mkF m pc ls st)) t)
    (G : Go κ σ h ce sl pc' ls' st') : Go κ σ h ce sl pc ls st := by
  obtain ⟨p, l', e, R, s, m, args, below, meth, c, Z', n0', Q'⟩ := κ
  obtain ⟨rfl, rfl, rfl, rfl, hQ, hx, hZ, hown, hby, hml, hret, hlk, hnm, hh⟩ := D
  intro vm0 k0 T locs X hS hk V O eT N
  obtain ⟨T', X', eT', k⟩ := f p e (s.setVm vm0) m args below meth c T locs hx (State.Warmed39.trans (t := s) hZ hS.1) (by show vm0.findClass _ = _; rw [hS.1.alike.findClass]; exact hown) hby hml hh X eT
  obtain ⟨s₂, o, h1, h2⟩ := G vm0 k0 T' locs X' hS hk V O eT' N
  exact ⟨s₂, o, k _ h1, h2⟩
/-- what a step may write -/
def Gw (h h' : Heap) (n0 : Nat) : Prop := ∃ ws : List Addr, Keep h h' ws ∧ ∀ x ∈ ws, n0 ≤ x
theorem Gw.ext (E : Ext h h') : Gw h h' n0 := ⟨[], (Keep.refl _ _).ext E, fun _ q => nomatch q⟩
theorem Gw.one {a : Addr} (K : Keep h h' [a]) (q : n0 ≤ a) : Gw h h' n0 := ⟨[a], K, fun x z => by cases List.mem_singleton.mp z; exact q⟩
/-- a step that turns the heap -/
theorem Go.turn (D : Amb κ l Z y code maxL ret rm h0 n0 Q) {P : Heap → Prop}
    (f : ∀ (p : Program) (e : Env) (s : State) (m : MethodId) (args : Array Value) (below : List Frame) (meth : Method) (c : Code) (T : State) (locs : List Loc), p.tables.exec = Jvm.exec → Z.Warmed39 s.vm → s.vm.findClass y.cls = some m.cls → c.code = code → c.maxLocals = maxL → meth.name = y.name → Stand p l e rm s m args below meth c T locs ce sl → T.heap = h → Fr n0 locs → ∃ T' locs' h', Stand p l e rm s m args below meth c T' locs' ce' sl' ∧ T'.heap = h' ∧ Fr n0 locs' ∧ Gw h h' n0 ∧ P h' ∧ ∀ t, Steps p.tables e below (T'.setTop (mkF m pc' ls' st')) t → Steps p.tables e below (T.setTop (mkF m pc ls st)) t)
    (G : ∀ h', P h' → Go κ σ h' ce' sl' pc' ls' st') : Go κ σ h ce sl pc ls st := by
  obtain ⟨p, l', e, R, s, m, args, below, meth, c, Z', n0', Q'⟩ := κ
  obtain ⟨rfl, rfl, rfl, rfl, hQ, hx, hZ, hown, hby, hml, hret, hlk, hnm, hh⟩ := D
  intro vm0 k0 T locs X hS hk V O eT N
  obtain ⟨T', locs', h', X', eT', N', ⟨ws, K, hws⟩, hP, k⟩ := f p e (s.setVm vm0) m args below meth c T locs hx (State.Warmed39.trans (t := s) hZ hS.1) (by show vm0.findClass _ = _; rw [hS.1.alike.findClass]; exact hown) hby hml hnm X eT N
  obtain ⟨s₂, o, h1, h2⟩ := G h' hP vm0 k0 T' locs' X' hS (Nat.le_trans hk K.1) V (O.keep K hws) eT' N'
  exact ⟨s₂, o, k _ h1, h2⟩
theorem sd_mono {p : Program} {e : Env} {R : Room} {s : State} {m : MethodId} {args : Array Value} {below : List Frame} {meth : Method} {c : Code} {T : State} {locs : List Loc} (X : Stand p l e R s m args below meth c T locs ce sl) (h1 : ce ≤ ce') (h2 : sl ≤ sl') : Stand p l e R s m args below meth c T locs ce' sl' :=
  { X with same := X.same.mono h1 h2 }
theorem Go.up (h1 : ce ≤ ce') (h2 : sl ≤ sl') (G : Go κ σ h ce' sl' pc ls st) : Go κ σ h ce sl pc ls st := by
  obtain ⟨p, l', e, R, s, m, args, below, meth, c, Z', n0', Q'⟩ := κ
  intro vm0 k0 T locs X hS hk V O eT N
  exact G vm0 k0 T locs (sd_mono X h1 h2) hS hk V O eT N
/-- the walk's hidden knowledge: the heap at the start stands -/
theorem Go.old (D : Amb κ l Z y code maxL ret rm h0 n0 Q) (G : Old Z n0 h → Go κ σ h ce sl pc ls st) : Go κ σ h ce sl pc ls st := by
  obtain ⟨p, l', e, R, s, m, args, below, meth, c, Z', n0', Q'⟩ := κ
  obtain ⟨rfl, rfl, rfl, rfl, hQ, hx, hZ, hown, hby, hml, hret, hlk, hnm, hh⟩ := D
  intro vm0 k0 T locs X hS hk V O eT N
  exact G O vm0 k0 T locs X hS hk V O eT N
theorem Go.getS (D : Amb κ l Z y code maxL ret rm h0 n0 Q) {idx : Nat} {n d O : String} {v : Value} (w : (Jvm.Cond.fieldLink y.cls idx O n d).before a0 Z = true) (hd : decode code pc = .ok (.getstatic idx, 3)) (hp : pc + 3 = pc') (F : Sta Z Z.heap O n d v) (G : Go κ σ h ce sl pc' ls (v :: st)) : Go κ σ h ce sl pc ls st := by
  subst hp
  refine Go.old D fun O' => ?_
  exact Go.calm D (fun p e s m args below meth c T locs hx hZ hown hby hml hh X eT => Jvm.RoadKit.getS (host := "") X hx hZ hown w Via.refl eT (F.ext O'.2) (g := mkF m pc ls st) rfl (hb hby hd)) G
/-! returns -/
theorem Go.ret1 (D : Amb κ l Z y code maxL ret rm h0 n0 Q) {i : Instr} {t : FieldType} {w : Value} (hret' : ret = some t) (hn : narrow t w = w)
    (hi : (i = .ireturn ∧ (t = .int ∨ t = .boolean ∨ t = .byte ∨ t = .char ∨ t = .short) ∧ ∃ z, w = .int z) ∨ (i = .lreturn ∧ t = .long ∧ ∃ z, w = .long z) ∨ (i = .dreturn ∧ t = .double ∧ ∃ z, w = .double z) ∨ (i = .freturn ∧ t = .float ∧ ∃ z, w = .float z) ∨ (i = .areturn ∧ t.isReference = true ∧ w.isRef = true))
    (hd : decode code pc = .ok (i, 1)) (hc : ce ≤ rm.cells) (hs : sl ≤ rm.slots) (q : Q (some w) h σ) : Go κ σ h ce sl pc ls (w :: rest) := by
  obtain ⟨p, l', e, R, s, m, args, below, meth, c, Z', n0', Q'⟩ := κ
  obtain ⟨rfl, rfl, rfl, rfl, hQ, hx, hZ, hown, hby, hml, hret, hlk, hnm, hh⟩ := D
  intro vm0 k0 T locs X hS hk V O eT N
  have hr2 : meth.sig.returnType = some t := hret.trans hret'
  obtain ⟨fs, hr, hrun, hended, hW⟩ := X.leaveW hS (by rw [eT]; exact hk) (v := some w) (fun h => by rw [hr2] at h; cases h) hlk
  refine ⟨_, _, retOut X hx hr2 hn hi (hb hby hd) hr, hrun, hended, _, _, σ, rfl, ⟨N, V.warm X.warmed, ?_, hQ _ _ _ ?_⟩, hW.1, hW.2.1, hW.2.2.1, hW.2.2.2.mono hc hs⟩
  · show Old _ _ T.heap
    rw [eT]; exact O
  · show Q (some w) T.heap σ
    rw [eT]; exact q
theorem Go.iret (D : Amb κ l Z y code maxL ret rm h0 n0 Q) {x : Int32} (hret' : ret = some .int) (hd : decode code pc = .ok (.ireturn, 1)) (hc : ce ≤ rm.cells) (hs : sl ≤ rm.slots) (q : Q (some (.int x)) h σ) : Go κ σ h ce sl pc ls (.int x :: rest) :=
  Go.ret1 D hret' rfl (Or.inl ⟨rfl, Or.inl rfl, _, rfl⟩) hd hc hs q
theorem Go.zret (D : Amb κ l Z y code maxL ret rm h0 n0 Q) {x : Int32} (hret' : ret = some .boolean) (hx : narrow .boolean (.int x) = .int x) (hd : decode code pc = .ok (.ireturn, 1)) (hc : ce ≤ rm.cells) (hs : sl ≤ rm.slots) (q : Q (some (.int x)) h σ) : Go κ σ h ce sl pc ls (.int x :: rest) :=
  Go.ret1 D hret' hx (Or.inl ⟨rfl, Or.inr (Or.inl rfl), _, rfl⟩) hd hc hs q
theorem Go.cret (D : Amb κ l Z y code maxL ret rm h0 n0 Q) {x : Int32} (hret' : ret = some .char) (hx : narrow .char (.int x) = .int x) (hd : decode code pc = .ok (.ireturn, 1)) (hc : ce ≤ rm.cells) (hs : sl ≤ rm.slots) (q : Q (some (.int x)) h σ) : Go κ σ h ce sl pc ls (.int x :: rest) :=
  Go.ret1 D hret' hx (Or.inl ⟨rfl, Or.inr (Or.inr (Or.inr (Or.inl rfl))), _, rfl⟩) hd hc hs q
theorem Go.bret (D : Amb κ l Z y code maxL ret rm h0 n0 Q) {x : Int32} (hret' : ret = some .byte) (hx : narrow .byte (.int x) = .int x) (hd : decode code pc = .ok (.ireturn, 1)) (hc : ce ≤ rm.cells) (hs : sl ≤ rm.slots) (q : Q (some (.int x)) h σ) : Go κ σ h ce sl pc ls (.int x :: rest) :=
  Go.ret1 D hret' hx (Or.inl ⟨rfl, Or.inr (Or.inr (Or.inl rfl)), _, rfl⟩) hd hc hs q
theorem Go.aret (D : Amb κ l Z y code maxL ret rm h0 n0 Q) {t : FieldType} {a : Addr} (hret' : ret = some t) (ht : t.isReference = true) (hn : narrow t (.ref a) = .ref a) (hd : decode code pc = .ok (.areturn, 1)) (hc : ce ≤ rm.cells) (hs : sl ≤ rm.slots) (q : Q (some (.ref a)) h σ) : Go κ σ h ce sl pc ls (.ref a :: rest) :=
  Go.ret1 D hret' hn (Or.inr (Or.inr (Or.inr (Or.inr ⟨rfl, ht, rfl⟩)))) hd hc hs q
theorem Go.lret (D : Amb κ l Z y code maxL ret rm h0 n0 Q) {x : Int64} (hret' : ret = some .long) (hd : decode code pc = .ok (.lreturn, 1)) (hc : ce ≤ rm.cells) (hs : sl ≤ rm.slots) (q : Q (some (.long x)) h σ) : Go κ σ h ce sl pc ls (.long x :: rest) :=
  Go.ret1 D hret' rfl (Or.inr (Or.inl ⟨rfl, rfl, _, rfl⟩)) hd hc hs q
theorem Go.vret (D : Amb κ l Z y code maxL ret rm h0 n0 Q) (hret' : ret = none) (hd : decode code pc = .ok (.return_, 1)) (hc : ce ≤ rm.cells) (hs : sl ≤ rm.slots) (q : Q none h σ) : Go κ σ h ce sl pc ls [] := by
  obtain ⟨p, l', e, R, s, m, args, below, meth, c, Z', n0', Q'⟩ := κ
  obtain ⟨rfl, rfl, rfl, rfl, hQ, hx, hZ, hown, hby, hml, hret, hlk, hnm, hh⟩ := D
  intro vm0 k0 T locs X hS hk V O eT N
  have hr2 : meth.sig.returnType = none := hret.trans hret'
  obtain ⟨fs, hr, hrun, hended, hW⟩ := X.leaveW hS (by rw [eT]; exact hk) (v := none) (fun _ => rfl) hlk
  refine ⟨_, _, X.returnOut hx hr2 (hb hby hd) hr, hrun, hended, _, _, σ, rfl, ⟨N, V.warm X.warmed, ?_, hQ _ _ _ ?_⟩, hW.1, hW.2.1, hW.2.2.1, hW.2.2.2.mono hc hs⟩
  · show Old _ _ T.heap
    rw [eT]; exact O
  · show Q none T.heap σ
    rw [eT]; exact q
/-! branches -/
def cy : ClassFile.Cond → Int32 → Int32 → Prop
  | .eq, x, y => x = y
  | .ne, x, y => ¬ x = y
  | .lt, x, y => x < y
  | .ge, x, y => ¬ x < y
  | .gt, x, y => y < x
  | .le, x, y => ¬ y < x
def cn : ClassFile.Cond → Int32 → Int32 → Prop
  | .eq, x, y => ¬ x = y
  | .ne, x, y => x = y
  | .lt, x, y => ¬ x < y
  | .ge, x, y => x < y
  | .gt, x, y => ¬ y < x
  | .le, x, y => y < x
theorem icmp_dec (cd : ClassFile.Cond) (x y : Int32) : (if_icmp.holds cd x y = true ∧ cy cd x y) ∨ (if_icmp.holds cd x y = false ∧ cn cd x y) := by
  cases cd <;> simp only [if_icmp.holds, cy, cn, beq_iff_eq, bne_iff_ne, ne_eq, decide_eq_true_eq, decide_eq_false_iff_not, beq_eq_false_iff_ne, bne_eq_false_iff_eq, Int32.not_lt, gt_iff_lt, ge_iff_le, Int32.not_le]
  · by_cases q : x = y <;> simp [q]
  · by_cases q : x = y <;> simp [q]
  · rcases Int32.lt_or_le x y with q | q <;> simp [q]
  · rcases Int32.lt_or_le x y with q | q <;> simp [q]
  · rcases Int32.lt_or_le y x with q | q <;> simp [q]
  · rcases Int32.lt_or_le y x with q | q <;> simp [q]
theorem ifc_dec (cd : ClassFile.Cond) (x : Int32) : (ifCond.holds cd x = true ∧ cy cd x 0) ∨ (ifCond.holds cd x = false ∧ cn cd x 0) := by
  cases cd <;> simp only [ifCond.holds, cy, cn, beq_iff_eq, bne_iff_ne, ne_eq, decide_eq_true_eq, decide_eq_false_iff_not, beq_eq_false_iff_ne, bne_eq_false_iff_eq, Int32.not_lt, gt_iff_lt, ge_iff_le, Int32.not_le]
  · by_cases q : x = 0 <;> simp [q]
  · by_cases q : x = 0 <;> simp [q]
  · rcases Int32.lt_or_le x 0 with q | q <;> simp [q]
  · rcases Int32.lt_or_le x 0 with q | q <;> simp [q]
  · rcases Int32.lt_or_le 0 x with q | q <;> simp [q]
  · rcases Int32.lt_or_le 0 x with q | q <;> simp [q]
theorem Go.ifc (D : Amb κ l Z y code maxL ret rm h0 n0 Q) {cd : ClassFile.Cond} {o : Int} {x : Int32} (hd : decode code pc = .ok (.ifCond cd o, 3)) (ho : 0 ≤ (pc : Int) + o) (hp : ((pc : Int) + o).toNat = pc') (hp2 : pc + 3 = pc2)
    (Gt : cy cd x 0 → Go κ σ h ce sl pc' ls rest) (Gf : cn cd x 0 → Go κ σ h ce sl pc2 ls rest) : Go κ σ h ce sl pc ls (.int x :: rest) := by
  subst hp2
  rcases ifc_dec cd x with ⟨q1, q2⟩ | ⟨q1, q2⟩
  · exact Go.pure D (fun p e below T t m c hx hby hT k => XS.ifYes hT hx rfl rfl (hb hby hd) rfl q1 ho hp k) (Gt q2)
  · exact Go.pure D (fun p e below T t m c hx hby hT k => XS.ifNo hT hx rfl (hb hby hd) rfl q1 k) (Gf q2)
theorem Go.icmp (D : Amb κ l Z y code maxL ret rm h0 n0 Q) {cd : ClassFile.Cond} {o : Int} {x z : Int32} (hd : decode code pc = .ok (.if_icmp cd o, 3)) (ho : 0 ≤ (pc : Int) + o) (hp : ((pc : Int) + o).toNat = pc') (hp2 : pc + 3 = pc2)
    (Gt : cy cd x z → Go κ σ h ce sl pc' ls rest) (Gf : cn cd x z → Go κ σ h ce sl pc2 ls rest) : Go κ σ h ce sl pc ls (.int z :: .int x :: rest) := by
  subst hp2
  rcases icmp_dec cd x z with ⟨q1, q2⟩ | ⟨q1, q2⟩
  · exact Go.pure D (fun p e below T t m c hx hby hT k => XS.icmpYes hT hx rfl rfl (hb hby hd) rfl q1 ho hp k) (Gt q2)
  · exact Go.pure D (fun p e below T t m c hx hby hT k => XS.icmpNo hT hx rfl (hb hby hd) rfl q1 k) (Gf q2)
theorem Go.iloadN (D : Amb κ l Z y code maxL ret rm h0 n0 Q) {k : Fin 4} {v : Int32} (hd : decode code pc = .ok (.iload_n k, 1)) (hp : pc + 1 = pc') (hl : ls[k.val]? = some (.val (.int v))) (G : Go κ σ h ce sl pc' ls (.int v :: st)) : Go κ σ h ce sl pc ls (st) := by
  subst hp
  exact Go.pure D (fun p e below T t m c hx hby hT k' => XS.iloadN hT hx rfl (hb hby hd) hl k') G
theorem Go.iload (D : Amb κ l Z y code maxL ret rm h0 n0 Q) {k : Nat} {v : Int32} (hd : decode code pc = .ok (.iload k, 2)) (hp : pc + 2 = pc') (hl : ls[k]? = some (.val (.int v))) (G : Go κ σ h ce sl pc' ls (.int v :: st)) : Go κ σ h ce sl pc ls (st) := by
  subst hp
  exact Go.pure D (fun p e below T t m c hx hby hT k' => XS.iload hT hx rfl (hb hby hd) hl k') G
theorem Go.aloadN (D : Amb κ l Z y code maxL ret rm h0 n0 Q) {k : Fin 4} {v : Value} (hd : decode code pc = .ok (.aload_n k, 1)) (hp : pc + 1 = pc') (hl : ls[k.val]? = some (.val v)) (hv : v.isRef = true) (G : Go κ σ h ce sl pc' ls (v :: st)) : Go κ σ h ce sl pc ls (st) := by
  subst hp
  exact Go.pure D (fun p e below T t m c hx hby hT k' => XS.aloadN hT hx rfl (hb hby hd) hl hv k') G
theorem Go.aload (D : Amb κ l Z y code maxL ret rm h0 n0 Q) {k : Nat} {v : Value} (hd : decode code pc = .ok (.aload k, 2)) (hp : pc + 2 = pc') (hl : ls[k]? = some (.val v)) (hv : v.isRef = true) (G : Go κ σ h ce sl pc' ls (v :: st)) : Go κ σ h ce sl pc ls (st) := by
  subst hp
  exact Go.pure D (fun p e below T t m c hx hby hT k' => XS.aload hT hx rfl (hb hby hd) hl hv k') G
theorem Go.lloadN (D : Amb κ l Z y code maxL ret rm h0 n0 Q) {k : Fin 4} {v : Int64} (hd : decode code pc = .ok (.lload_n k, 1)) (hp : pc + 1 = pc') (hl : ls[k.val]? = some (.val (.long v))) (G : Go κ σ h ce sl pc' ls (.long v :: st)) : Go κ σ h ce sl pc ls (st) := by
  subst hp
  exact Go.pure D (fun p e below T t m c hx hby hT k' => XS.lloadN hT hx rfl (hb hby hd) hl k') G
theorem Go.lload (D : Amb κ l Z y code maxL ret rm h0 n0 Q) {k : Nat} {v : Int64} (hd : decode code pc = .ok (.lload k, 2)) (hp : pc + 2 = pc') (hl : ls[k]? = some (.val (.long v))) (G : Go κ σ h ce sl pc' ls (.long v :: st)) : Go κ σ h ce sl pc ls (st) := by
  subst hp
  exact Go.pure D (fun p e below T t m c hx hby hT k' => XS.lload hT hx rfl (hb hby hd) hl k') G
theorem Go.iconst (D : Amb κ l Z y code maxL ret rm h0 n0 Q) {i : Int} {v : Int32} (hd : decode code pc = .ok (.iconst i, 1)) (hp : pc + 1 = pc') (hv : Int32.ofInt i = v) (G : Go κ σ h ce sl pc' ls (.int v :: st)) : Go κ σ h ce sl pc ls (st) := by
  subst hp hv
  exact Go.pure D (fun p e below T t m c hx hby hT k' => XS.iconst hT hx rfl (hb hby hd) k') G
theorem Go.bipush (D : Amb κ l Z y code maxL ret rm h0 n0 Q) {i : Int} {v : Int32} (hd : decode code pc = .ok (.bipush i, 2)) (hp : pc + 2 = pc') (hv : (Int8.ofInt i).toInt32 = v) (G : Go κ σ h ce sl pc' ls (.int v :: st)) : Go κ σ h ce sl pc ls (st) := by
  subst hp hv
  exact Go.pure D (fun p e below T t m c hx hby hT k' => XS.bipush hT hx rfl (hb hby hd) k') G
theorem Go.sipush (D : Amb κ l Z y code maxL ret rm h0 n0 Q) {i : Int} {v : Int32} (hd : decode code pc = .ok (.sipush i, 3)) (hp : pc + 3 = pc') (hv : (Int16.ofInt i).toInt32 = v) (G : Go κ σ h ce sl pc' ls (.int v :: st)) : Go κ σ h ce sl pc ls (st) := by
  subst hp hv
  exact Go.pure D (fun p e below T t m c hx hby hT k' => XS.sipush hT hx rfl (hb hby hd) k') G
theorem Go.lconst (D : Amb κ l Z y code maxL ret rm h0 n0 Q) {k : Fin 2} {v : Int64} (hd : decode code pc = .ok (.lconst k, 1)) (hp : pc + 1 = pc') (hv : Int64.ofNat k = v) (G : Go κ σ h ce sl pc' ls (.long v :: st)) : Go κ σ h ce sl pc ls (st) := by
  subst hp hv
  exact Go.pure D (fun p e below T t m c hx hby hT k' => XS.lconst hT hx rfl (hb hby hd) k') G
theorem Go.aconstNull (D : Amb κ l Z y code maxL ret rm h0 n0 Q)  (hd : decode code pc = .ok (.aconst_null, 1)) (hp : pc + 1 = pc')  (G : Go κ σ h ce sl pc' ls (.null :: st)) : Go κ σ h ce sl pc ls (st) := by
  subst hp
  exact Go.pure D (fun p e below T t m c hx hby hT k' => XS.aconstNull hT hx rfl (hb hby hd) k') G
theorem Go.iadd (D : Amb κ l Z y code maxL ret rm h0 n0 Q) {x z : Int32} (hd : decode code pc = .ok (.iadd, 1)) (hp : pc + 1 = pc')  (G : Go κ σ h ce sl pc' ls (.int (x + z) :: rest)) : Go κ σ h ce sl pc ls (.int z :: .int x :: rest) := by
  subst hp
  exact Go.pure D (fun p e below T t m c hx hby hT k' => XS.iadd hT hx rfl (hb hby hd) rfl k') G
theorem Go.isub (D : Amb κ l Z y code maxL ret rm h0 n0 Q) {x z : Int32} (hd : decode code pc = .ok (.isub, 1)) (hp : pc + 1 = pc')  (G : Go κ σ h ce sl pc' ls (.int (x - z) :: rest)) : Go κ σ h ce sl pc ls (.int z :: .int x :: rest) := by
  subst hp
  exact Go.pure D (fun p e below T t m c hx hby hT k' => XS.isub hT hx rfl (hb hby hd) rfl k') G
theorem Go.iand (D : Amb κ l Z y code maxL ret rm h0 n0 Q) {x z : Int32} (hd : decode code pc = .ok (.iand, 1)) (hp : pc + 1 = pc')  (G : Go κ σ h ce sl pc' ls (.int (x &&& z) :: rest)) : Go κ σ h ce sl pc ls (.int z :: .int x :: rest) := by
  subst hp
  exact Go.pure D (fun p e below T t m c hx hby hT k' => XS.iand hT hx rfl (hb hby hd) rfl k') G
theorem Go.imul (D : Amb κ l Z y code maxL ret rm h0 n0 Q) {x z : Int32} (hd : decode code pc = .ok (.imul, 1)) (hp : pc + 1 = pc')  (G : Go κ σ h ce sl pc' ls (.int (x * z) :: rest)) : Go κ σ h ce sl pc ls (.int z :: .int x :: rest) := by
  subst hp
  exact Go.pure D (fun p e below T t m c hx hby hT k' => XS.imul hT hx rfl (hb hby hd) rfl k') G
theorem Go.ixor (D : Amb κ l Z y code maxL ret rm h0 n0 Q) {x z : Int32} (hd : decode code pc = .ok (.ixor, 1)) (hp : pc + 1 = pc')  (G : Go κ σ h ce sl pc' ls (.int (x ^^^ z) :: rest)) : Go κ σ h ce sl pc ls (.int z :: .int x :: rest) := by
  subst hp
  exact Go.pure D (fun p e below T t m c hx hby hT k' => XS.ixor hT hx rfl (hb hby hd) rfl k') G
theorem Go.ior (D : Amb κ l Z y code maxL ret rm h0 n0 Q) {x z : Int32} (hd : decode code pc = .ok (.ior, 1)) (hp : pc + 1 = pc')  (G : Go κ σ h ce sl pc' ls (.int (x ||| z) :: rest)) : Go κ σ h ce sl pc ls (.int z :: .int x :: rest) := by
  subst hp
  exact Go.pure D (fun p e below T t m c hx hby hT k' => XS.ior hT hx rfl (hb hby hd) rfl k') G
theorem Go.ishl (D : Amb κ l Z y code maxL ret rm h0 n0 Q) {x z : Int32} (hd : decode code pc = .ok (.ishl, 1)) (hp : pc + 1 = pc')  (G : Go κ σ h ce sl pc' ls (.int (x <<< (z &&& 31)) :: rest)) : Go κ σ h ce sl pc ls (.int z :: .int x :: rest) := by
  subst hp
  exact Go.pure D (fun p e below T t m c hx hby hT k' => XS.ishl hT hx rfl (hb hby hd) rfl k') G
theorem Go.ishr (D : Amb κ l Z y code maxL ret rm h0 n0 Q) {x z : Int32} (hd : decode code pc = .ok (.ishr, 1)) (hp : pc + 1 = pc')  (G : Go κ σ h ce sl pc' ls (.int (x >>> (z &&& 31)) :: rest)) : Go κ σ h ce sl pc ls (.int z :: .int x :: rest) := by
  subst hp
  exact Go.pure D (fun p e below T t m c hx hby hT k' => XS.ishr hT hx rfl (hb hby hd) rfl k') G
theorem Go.iushr (D : Amb κ l Z y code maxL ret rm h0 n0 Q) {x z : Int32} (hd : decode code pc = .ok (.iushr, 1)) (hp : pc + 1 = pc')  (G : Go κ σ h ce sl pc' ls (.int (ushr x z) :: rest)) : Go κ σ h ce sl pc ls (.int z :: .int x :: rest) := by
  subst hp
  exact Go.pure D (fun p e below T t m c hx hby hT k' => XS.iushr hT hx rfl (hb hby hd) rfl k') G
theorem Go.ladd (D : Amb κ l Z y code maxL ret rm h0 n0 Q) {x z : Int64} (hd : decode code pc = .ok (.ladd, 1)) (hp : pc + 1 = pc')  (G : Go κ σ h ce sl pc' ls (.long (x + z) :: rest)) : Go κ σ h ce sl pc ls (.long z :: .long x :: rest) := by
  subst hp
  exact Go.pure D (fun p e below T t m c hx hby hT k' => XS.ladd hT hx rfl (hb hby hd) rfl k') G
theorem Go.lsub (D : Amb κ l Z y code maxL ret rm h0 n0 Q) {x z : Int64} (hd : decode code pc = .ok (.lsub, 1)) (hp : pc + 1 = pc')  (G : Go κ σ h ce sl pc' ls (.long (x - z) :: rest)) : Go κ σ h ce sl pc ls (.long z :: .long x :: rest) := by
  subst hp
  exact Go.pure D (fun p e below T t m c hx hby hT k' => XS.lsub hT hx rfl (hb hby hd) rfl k') G
theorem Go.lmul (D : Amb κ l Z y code maxL ret rm h0 n0 Q) {x z : Int64} (hd : decode code pc = .ok (.lmul, 1)) (hp : pc + 1 = pc')  (G : Go κ σ h ce sl pc' ls (.long (x * z) :: rest)) : Go κ σ h ce sl pc ls (.long z :: .long x :: rest) := by
  subst hp
  exact Go.pure D (fun p e below T t m c hx hby hT k' => XS.lmul hT hx rfl (hb hby hd) rfl k') G
theorem Go.land (D : Amb κ l Z y code maxL ret rm h0 n0 Q) {x z : Int64} (hd : decode code pc = .ok (.land, 1)) (hp : pc + 1 = pc')  (G : Go κ σ h ce sl pc' ls (.long (x &&& z) :: rest)) : Go κ σ h ce sl pc ls (.long z :: .long x :: rest) := by
  subst hp
  exact Go.pure D (fun p e below T t m c hx hby hT k' => XS.land hT hx rfl (hb hby hd) rfl k') G
theorem Go.lor (D : Amb κ l Z y code maxL ret rm h0 n0 Q) {x z : Int64} (hd : decode code pc = .ok (.lor, 1)) (hp : pc + 1 = pc')  (G : Go κ σ h ce sl pc' ls (.long (x ||| z) :: rest)) : Go κ σ h ce sl pc ls (.long z :: .long x :: rest) := by
  subst hp
  exact Go.pure D (fun p e below T t m c hx hby hT k' => XS.lor hT hx rfl (hb hby hd) rfl k') G
theorem Go.lxor (D : Amb κ l Z y code maxL ret rm h0 n0 Q) {x z : Int64} (hd : decode code pc = .ok (.lxor, 1)) (hp : pc + 1 = pc')  (G : Go κ σ h ce sl pc' ls (.long (x ^^^ z) :: rest)) : Go κ σ h ce sl pc ls (.long z :: .long x :: rest) := by
  subst hp
  exact Go.pure D (fun p e below T t m c hx hby hT k' => XS.lxor hT hx rfl (hb hby hd) rfl k') G
theorem Go.lshl (D : Amb κ l Z y code maxL ret rm h0 n0 Q) {x : Int64} {z : Int32} (hd : decode code pc = .ok (.lshl, 1)) (hp : pc + 1 = pc')  (G : Go κ σ h ce sl pc' ls (.long (x <<< (z &&& 63).toInt64) :: rest)) : Go κ σ h ce sl pc ls (.int z :: .long x :: rest) := by
  subst hp
  exact Go.pure D (fun p e below T t m c hx hby hT k' => XS.lshl hT hx rfl (hb hby hd) rfl k') G
theorem Go.lshr (D : Amb κ l Z y code maxL ret rm h0 n0 Q) {x : Int64} {z : Int32} (hd : decode code pc = .ok (.lshr, 1)) (hp : pc + 1 = pc')  (G : Go κ σ h ce sl pc' ls (.long (x >>> (z &&& 63).toInt64) :: rest)) : Go κ σ h ce sl pc ls (.int z :: .long x :: rest) := by
  subst hp
  exact Go.pure D (fun p e below T t m c hx hby hT k' => XS.lshr hT hx rfl (hb hby hd) rfl k') G
theorem Go.lushr (D : Amb κ l Z y code maxL ret rm h0 n0 Q) {x : Int64} {z : Int32} (hd : decode code pc = .ok (.lushr, 1)) (hp : pc + 1 = pc')  (G : Go κ σ h ce sl pc' ls (.long (ushrL x z) :: rest)) : Go κ σ h ce sl pc ls (.int z :: .long x :: rest) := by
  subst hp
  exact Go.pure D (fun p e below T t m c hx hby hT k' => XS.lushr hT hx rfl (hb hby hd) rfl k') G
theorem Go.ineg (D : Amb κ l Z y code maxL ret rm h0 n0 Q) {x : Int32} (hd : decode code pc = .ok (.ineg, 1)) (hp : pc + 1 = pc')  (G : Go κ σ h ce sl pc' ls (.int (-x) :: rest)) : Go κ σ h ce sl pc ls (.int x :: rest) := by
  subst hp
  exact Go.pure D (fun p e below T t m c hx hby hT k' => XS.ineg hT hx rfl (hb hby hd) rfl k') G
theorem Go.lneg (D : Amb κ l Z y code maxL ret rm h0 n0 Q) {x : Int64} (hd : decode code pc = .ok (.lneg, 1)) (hp : pc + 1 = pc')  (G : Go κ σ h ce sl pc' ls (.long (-x) :: rest)) : Go κ σ h ce sl pc ls (.long x :: rest) := by
  subst hp
  exact Go.pure D (fun p e below T t m c hx hby hT k' => XS.lneg hT hx rfl (hb hby hd) rfl k') G
theorem Go.i2l (D : Amb κ l Z y code maxL ret rm h0 n0 Q) {x : Int32} (hd : decode code pc = .ok (.i2l, 1)) (hp : pc + 1 = pc')  (G : Go κ σ h ce sl pc' ls (.long (x.toInt64) :: rest)) : Go κ σ h ce sl pc ls (.int x :: rest) := by
  subst hp
  exact Go.pure D (fun p e below T t m c hx hby hT k' => XS.i2l hT hx rfl (hb hby hd) rfl k') G
theorem Go.l2i (D : Amb κ l Z y code maxL ret rm h0 n0 Q) {x : Int64} (hd : decode code pc = .ok (.l2i, 1)) (hp : pc + 1 = pc')  (G : Go κ σ h ce sl pc' ls (.int (x.toInt32) :: rest)) : Go κ σ h ce sl pc ls (.long x :: rest) := by
  subst hp
  exact Go.pure D (fun p e below T t m c hx hby hT k' => XS.l2i hT hx rfl (hb hby hd) rfl k') G
theorem Go.i2b (D : Amb κ l Z y code maxL ret rm h0 n0 Q) {x : Int32} (hd : decode code pc = .ok (.i2b, 1)) (hp : pc + 1 = pc')  (G : Go κ σ h ce sl pc' ls (.int (x.toInt8.toInt32) :: rest)) : Go κ σ h ce sl pc ls (.int x :: rest) := by
  subst hp
  exact Go.pure D (fun p e below T t m c hx hby hT k' => XS.i2b hT hx rfl (hb hby hd) rfl k') G
theorem Go.i2c (D : Amb κ l Z y code maxL ret rm h0 n0 Q) {x : Int32} (hd : decode code pc = .ok (.i2c, 1)) (hp : pc + 1 = pc')  (G : Go κ σ h ce sl pc' ls (.int (x.toUInt32.toUInt16.toUInt32.toInt32) :: rest)) : Go κ σ h ce sl pc ls (.int x :: rest) := by
  subst hp
  exact Go.pure D (fun p e below T t m c hx hby hT k' => XS.i2c hT hx rfl (hb hby hd) rfl k') G
theorem Go.lcmp (D : Amb κ l Z y code maxL ret rm h0 n0 Q) {x z : Int64} (hd : decode code pc = .ok (.lcmp, 1)) (hp : pc + 1 = pc')  (G : Go κ σ h ce sl pc' ls (.int (cmpL x z) :: rest)) : Go κ σ h ce sl pc ls (.long z :: .long x :: rest) := by
  subst hp
  exact Go.pure D (fun p e below T t m c hx hby hT k' => XS.lcmp hT hx rfl (hb hby hd) rfl k') G
theorem Go.dup (D : Amb κ l Z y code maxL ret rm h0 n0 Q) {x : Value} (hd : decode code pc = .ok (.dup, 1)) (hp : pc + 1 = pc') (hc : x.category = 1) (G : Go κ σ h ce sl pc' ls (x :: x :: rest)) : Go κ σ h ce sl pc ls (x :: rest) := by
  subst hp
  exact Go.pure D (fun p e below T t m c hx hby hT k' => XS.dup hT hx rfl (hb hby hd) rfl hc k') G
theorem Go.pop (D : Amb κ l Z y code maxL ret rm h0 n0 Q) {x : Value} (hd : decode code pc = .ok (.pop, 1)) (hp : pc + 1 = pc') (hc : x.category = 1) (G : Go κ σ h ce sl pc' ls (rest)) : Go κ σ h ce sl pc ls (x :: rest) := by
  subst hp
  exact Go.pure D (fun p e below T t m c hx hby hT k' => XS.pop hT hx rfl (hb hby hd) rfl hc k') G
theorem Go.dupX1 (D : Amb κ l Z y code maxL ret rm h0 n0 Q) {x z : Value} (hd : decode code pc = .ok (.dup_x1, 1)) (hp : pc + 1 = pc') (hc : x.category = 1) (hc' : z.category = 1) (G : Go κ σ h ce sl pc' ls (x :: z :: x :: rest)) : Go κ σ h ce sl pc ls (x :: z :: rest) := by
  subst hp
  exact Go.pure D (fun p e below T t m c hx hby hT k' => XS.dupX1 hT hx rfl (hb hby hd) rfl hc hc' k') G
theorem Go.dup2 (D : Amb κ l Z y code maxL ret rm h0 n0 Q) {x z : Value} (hd : decode code pc = .ok (.dup2, 1)) (hp : pc + 1 = pc') (hc : x.category = 1) (hc' : z.category = 1) (G : Go κ σ h ce sl pc' ls (x :: z :: x :: z :: rest)) : Go κ σ h ce sl pc ls (x :: z :: rest) := by
  subst hp
  exact Go.pure D (fun p e below T t m c hx hby hT k' => XT.dup2 hT hx rfl (hb hby hd) rfl hc hc' k') G
theorem Go.dup2L (D : Amb κ l Z y code maxL ret rm h0 n0 Q) {x : Int64} (hd : decode code pc = .ok (.dup2, 1)) (hp : pc + 1 = pc')  (G : Go κ σ h ce sl pc' ls (.long x :: .long x :: rest)) : Go κ σ h ce sl pc ls (.long x :: rest) := by
  subst hp
  exact Go.pure D (fun p e below T t m c hx hby hT k' => XT.dup2L hT hx rfl (hb hby hd) rfl k') G
theorem Go.istoreN (D : Amb κ l Z y code maxL ret rm h0 n0 Q) {k : Fin 4} {x : Int32} (hd : decode code pc = .ok (.istore_n k, 1)) (hp : pc + 1 = pc') (hl : storeLocals ls k.val (.int x) = some ls') (G : Go κ σ h ce sl pc' ls' rest) : Go κ σ h ce sl pc ls (.int x :: rest) := by
  subst hp
  exact Go.pure D (fun p e below T t m c hx hby hT k' => XS.istoreN hT hx rfl (hb hby hd) rfl hl k') G
theorem Go.istore (D : Amb κ l Z y code maxL ret rm h0 n0 Q) {k : Nat} {x : Int32} (hd : decode code pc = .ok (.istore k, 2)) (hp : pc + 2 = pc') (hl : storeLocals ls k (.int x) = some ls') (G : Go κ σ h ce sl pc' ls' rest) : Go κ σ h ce sl pc ls (.int x :: rest) := by
  subst hp
  exact Go.pure D (fun p e below T t m c hx hby hT k' => XS.istore hT hx rfl (hb hby hd) rfl hl k') G
theorem Go.astoreN (D : Amb κ l Z y code maxL ret rm h0 n0 Q) {k : Fin 4} {x : Value} (hd : decode code pc = .ok (.astore_n k, 1)) (hp : pc + 1 = pc') (hv : x.isRef = true) (hl : storeLocals ls k.val x = some ls') (G : Go κ σ h ce sl pc' ls' rest) : Go κ σ h ce sl pc ls (x :: rest) := by
  subst hp
  exact Go.pure D (fun p e below T t m c hx hby hT k' => XS.astoreN hT hx rfl (hb hby hd) rfl hv hl k') G
theorem Go.astore (D : Amb κ l Z y code maxL ret rm h0 n0 Q) {k : Nat} {x : Value} (hd : decode code pc = .ok (.astore k, 2)) (hp : pc + 2 = pc') (hv : x.isRef = true) (hl : storeLocals ls k x = some ls') (G : Go κ σ h ce sl pc' ls' rest) : Go κ σ h ce sl pc ls (x :: rest) := by
  subst hp
  exact Go.pure D (fun p e below T t m c hx hby hT k' => XS.astore hT hx rfl (hb hby hd) rfl hv hl k') G
theorem Go.lstoreN (D : Amb κ l Z y code maxL ret rm h0 n0 Q) {k : Fin 4} {x : Int64} (hd : decode code pc = .ok (.lstore_n k, 1)) (hp : pc + 1 = pc') (hl : storeLocals ls k.val (.long x) = some ls') (G : Go κ σ h ce sl pc' ls' rest) : Go κ σ h ce sl pc ls (.long x :: rest) := by
  subst hp
  exact Go.pure D (fun p e below T t m c hx hby hT k' => XS.lstoreN hT hx rfl (hb hby hd) rfl hl k') G
theorem Go.lstore (D : Amb κ l Z y code maxL ret rm h0 n0 Q) {k : Nat} {x : Int64} (hd : decode code pc = .ok (.lstore k, 2)) (hp : pc + 2 = pc') (hl : storeLocals ls k (.long x) = some ls') (G : Go κ σ h ce sl pc' ls' rest) : Go κ σ h ce sl pc ls (.long x :: rest) := by
  subst hp
  exact Go.pure D (fun p e below T t m c hx hby hT k' => XS.lstore hT hx rfl (hb hby hd) rfl hl k') G
theorem Go.iinc (D : Amb κ l Z y code maxL ret rm h0 n0 Q) {k : Nat} {cst : Int} {x d : Int32} (hd : decode code pc = .ok (.iinc k cst, 3)) (hp : pc + 3 = pc') (hl : ls[k]? = some (.val (.int x))) (hv : Int32.ofInt cst = d) (hl' : storeLocals ls k (.int (x + d)) = some ls') (G : Go κ σ h ce sl pc' ls' st) : Go κ σ h ce sl pc ls st := by
  subst hp hv
  exact Go.pure D (fun p e below T t m c hx hby hT k' => XS.iinc hT hx rfl (hb hby hd) hl hl' k') G
theorem Go.istoreU (D : Amb κ l Z y code maxL ret rm h0 n0 Q) {k : Nat} {x : Int32} {o : Slot} (hd : decode code pc = .ok (.istore k, 2)) (hp : pc + 2 = pc') (hold : ls[k]? = some o) (ho : o = .unset ∨ ∃ w, o = .val w ∧ w.category = 1) (hl : ls.setIfInBounds k (.val (.int x)) = ls') (G : Go κ σ h ce sl pc' ls' rest) : Go κ σ h ce sl pc ls (.int x :: rest) := by
  subst hp hl
  exact Go.pure D (fun p e below T t m c hx hby hT k' => XS.istoreS hT hx rfl (hb hby hd) rfl hold ho k') G
theorem Go.istoreNU (D : Amb κ l Z y code maxL ret rm h0 n0 Q) {k : Fin 4} {x : Int32} {o : Slot} (hd : decode code pc = .ok (.istore_n k, 1)) (hp : pc + 1 = pc') (hold : ls[k.val]? = some o) (ho : o = .unset ∨ ∃ w, o = .val w ∧ w.category = 1) (hl : ls.setIfInBounds k.val (.val (.int x)) = ls') (G : Go κ σ h ce sl pc' ls' rest) : Go κ σ h ce sl pc ls (.int x :: rest) := by
  subst hp hl
  exact Go.pure D (fun p e below T t m c hx hby hT k' => XS.istoreNS hT hx rfl (hb hby hd) rfl hold ho k') G
theorem Go.astoreU (D : Amb κ l Z y code maxL ret rm h0 n0 Q) {k : Nat} {x : Value} {o : Slot} (hd : decode code pc = .ok (.astore k, 2)) (hp : pc + 2 = pc') (hv : x.isRef = true) (hc : x.category = 1) (hold : ls[k]? = some o) (ho : o = .unset ∨ ∃ w, o = .val w ∧ w.category = 1) (hl : ls.setIfInBounds k (.val x) = ls') (G : Go κ σ h ce sl pc' ls' rest) : Go κ σ h ce sl pc ls (x :: rest) := by
  subst hp hl
  exact Go.pure D (fun p e below T t m c hx hby hT k' => XS.astoreS hT hx rfl (hb hby hd) rfl hv hc hold ho k') G
theorem Go.goto (D : Amb κ l Z y code maxL ret rm h0 n0 Q) {o : Int} (hd : decode code pc = .ok (.goto o, 3)) (ho : 0 ≤ (pc : Int) + o) (hp : ((pc : Int) + o).toNat = pc') (G : Go κ σ h ce sl pc' ls st) : Go κ σ h ce sl pc ls st :=
  Go.pure D (fun p e below T t m c hx hby hT k' => XS.goto hT hx rfl rfl (hb hby hd) ho hp k') G
theorem Go.ifnullY (D : Amb κ l Z y code maxL ret rm h0 n0 Q) {o : Int} (hd : decode code pc = .ok (.ifnull o, 3)) (ho : 0 ≤ (pc : Int) + o) (hp : ((pc : Int) + o).toNat = pc') (G : Go κ σ h ce sl pc' ls rest) : Go κ σ h ce sl pc ls (.null :: rest) :=
  Go.pure D (fun p e below T t m c hx hby hT k' => XS.ifnullYes hT hx rfl rfl (hb hby hd) rfl ho hp k') G
theorem Go.ifnullN (D : Amb κ l Z y code maxL ret rm h0 n0 Q) {o : Int} {b : Addr} (hd : decode code pc = .ok (.ifnull o, 3)) (hp : pc + 3 = pc') (G : Go κ σ h ce sl pc' ls rest) : Go κ σ h ce sl pc ls (.ref b :: rest) := by
  subst hp
  exact Go.pure D (fun p e below T t m c hx hby hT k' => XS.ifnullNo hT hx rfl (hb hby hd) rfl k') G
theorem Go.ifnonnullY (D : Amb κ l Z y code maxL ret rm h0 n0 Q) {o : Int} {b : Addr} (hd : decode code pc = .ok (.ifnonnull o, 3)) (ho : 0 ≤ (pc : Int) + o) (hp : ((pc : Int) + o).toNat = pc') (G : Go κ σ h ce sl pc' ls rest) : Go κ σ h ce sl pc ls (.ref b :: rest) :=
  Go.pure D (fun p e below T t m c hx hby hT k' => XS.ifnonnullYes hT hx rfl rfl (hb hby hd) rfl ho hp k') G
theorem Go.ifnonnullN (D : Amb κ l Z y code maxL ret rm h0 n0 Q) {o : Int} (hd : decode code pc = .ok (.ifnonnull o, 3)) (hp : pc + 3 = pc') (G : Go κ σ h ce sl pc' ls rest) : Go κ σ h ce sl pc ls (.null :: rest) := by
  subst hp
  exact Go.pure D (fun p e below T t m c hx hby hT k' => XS.ifnonnullNo hT hx rfl (hb hby hd) rfl k') G
theorem Go.irem (D : Amb κ l Z y code maxL ret rm h0 n0 Q) {x z : Int32} (hd : decode code pc = .ok (.irem, 1)) (hp : pc + 1 = pc') (hz : z ≠ 0) (G : Go κ σ h ce sl pc' ls (.int (x % z) :: rest)) : Go κ σ h ce sl pc ls (.int z :: .int x :: rest) := by
  subst hp
  exact Go.calm D (fun p e s m args below meth c T locs hx hZ hown hby hml hh X eT => ⟨T, X, eT, fun t k => iremM X hx rfl (hb hby hd) rfl hz k⟩) G
theorem Go.ldcInt (D : Amb κ l Z y code maxL ret rm h0 n0 Q) {idx : Nat} {v : Int32} (w : (Jvm.Cond.constant y.cls idx v).before a0 Z = true) (hd : decode code pc = .ok (.ldc idx, 2)) (hp : pc + 2 = pc') (G : Go κ σ h ce sl pc' ls (.int v :: st)) : Go κ σ h ce sl pc ls st := by
  subst hp
  exact Go.calm D (fun p e s m args below meth c T locs hx hZ hown hby hml hh X eT => ⟨T, X, eT, X.ldcInt hx hown (mvT hZ w) (g := mkF m pc ls st) rfl (hb hby hd)⟩) G
theorem Go.ldc2Long (D : Amb κ l Z y code maxL ret rm h0 n0 Q) {idx : Nat} {v : Int64} (w : (Jvm.Cond.constantLong y.cls idx v).before a0 Z = true) (hd : decode code pc = .ok (.ldc2_w idx, 3)) (hp : pc + 3 = pc') (G : Go κ σ h ce sl pc' ls (.long v :: st)) : Go κ σ h ce sl pc ls st := by
  subst hp
  exact Go.calm D (fun p e s m args below meth c T locs hx hZ hown hby hml hh X eT => ⟨T, X, eT, X.ldc2Long hx hown (mvT hZ w) (g := mkF m pc ls st) rfl (hb hby hd)⟩) G
/-! fields -/
theorem Go.getF (D : Amb κ l Z y code maxL ret rm h0 n0 Q) {idx : Nat} {n d : String} {a : Addr} {v : Value} {O : String} (w : (Jvm.Cond.fieldLink y.cls idx O n d).before a0 Z = true) (hd : decode code pc = .ok (.getfield idx, 3)) (hp : pc + 3 = pc') (F : Fld Z h a O n d v) (G : Go κ σ h ce sl pc' ls (v :: rest)) : Go κ σ h ce sl pc ls (.ref a :: rest) := by
  subst hp
  exact Go.calm D (fun p e s m args below meth c T locs hx hZ hown hby hml hh X eT => Jvm.RoadKit.getF X hx hZ hown (host := "") (Or.inl w) Via.refl eT F (g := mkF m pc ls (.ref a :: rest)) rfl rfl (hb hby hd)) G
theorem Go.getFN (D : Amb κ l Z y code maxL ret rm h0 n0 Q) {idx : Nat} {n d host : String} {a : Addr} {v : Value} {O : String} (w : (Jvm.Cond.fieldLinkNest y.cls idx O n d host).before a0 Z = true) (hd : decode code pc = .ok (.getfield idx, 3)) (hp : pc + 3 = pc') (F : Fld Z h a O n d v) (G : Go κ σ h ce sl pc' ls (v :: rest)) : Go κ σ h ce sl pc ls (.ref a :: rest) := by
  subst hp
  exact Go.calm D (fun p e s m args below meth c T locs hx hZ hown hby hml hh X eT => Jvm.RoadKit.getF X hx hZ hown (host := host) (Or.inr w) Via.refl eT F (g := mkF m pc ls (.ref a :: rest)) rfl rfl (hb hby hd)) G
theorem Go.putF (D : Amb κ l Z y code maxL ret rm h0 n0 Q) {idx kk : Nat} {n d C O : String} {ty : FieldType} {a : Addr} {v old : Value} (w : (Jvm.Cond.fieldLink y.cls idx O n d).before a0 Z = true) (hd : decode code pc = .ok (.putfield idx, 3)) (hp : pc + 3 = pc') (F : Fld Z h a O n d old) (E : Exa Z h a C)
    (L : (Jvm.Cond.lays C O n d).before a0 Z = true ∨ ((Jvm.Cond.laysFinal C O n d).before a0 Z = true ∧ y.cls = O ∧ y.name = "<init>")) (wi : (Jvm.Cond.instantiable C kk).before a0 Z = true) (hty : parseFieldDescriptor d = some ty) (hn : narrow ty v = v) (hf : fits ty v = true) (ge : n0 ≤ a)
    (G : ∀ h', Wr h h' a (Jvm.RoadKit.slotOf Z O n d) v → Go κ σ h' ce sl pc' ls rest) : Go κ σ h ce sl pc ls (v :: .ref a :: rest) := by
  subst hp
  refine Go.turn D (fun p e s m args below meth c T locs hx hZ hown hby hml hnm X eT N => ?_) G
  obtain ⟨T', h1, X', e', W, k⟩ := Jvm.RoadKit.putF X hx hZ hown (host := "") (Or.inl w) Via.refl eT F E (L.imp id fun q => ⟨q.1, q.2.1, hnm.trans q.2.2⟩) wi hty hn hf (g := mkF m pc ls (v :: .ref a :: rest)) rfl rfl (hb hby hd)
  exact ⟨T', _, h1, X', e', Fr.snoc X' N ge, Gw.one (Keep.of_wr W) ge, W, k⟩
/-! new -/
theorem Go.newO (D : Amb κ l Z y code maxL ret rm h0 n0 Q) {idx n : Nat} {C : String} (w : (Jvm.Cond.classLink y.cls idx C).before a0 Z = true) (wi : (Jvm.Cond.instantiable C n).before a0 Z = true) (wz : (Jvm.Cond.initialized C).before a0 Z = true) (hd : decode code pc = .ok (.new idx, 3)) (hp : pc + 3 = pc') (hce : ce + 1 = ce') (hsl : sl + n = sl') (hc : ce' ≤ rm.cells) (hs : sl' ≤ rm.slots)
    (G : ∀ h' a, a = h.size → Ext h h' → Exa Z h' a C → (∀ {O nm d : String} {ty : FieldType}, Laid Z a0 C O nm d → parseFieldDescriptor d = some ty → Fld Z h' a O nm d (defaultValue ty)) → Go κ σ h' ce' sl' pc' ls (.ref a :: st)) : Go κ σ h ce sl pc ls st := by
  subst hp hce hsl
  refine Go.turn D (P := fun h' => Ext h h' ∧ Exa Z h' h.size C ∧ (∀ {O nm d : String} {ty : FieldType}, Laid Z a0 C O nm d → parseFieldDescriptor d = some ty → Fld Z h' h.size O nm d (defaultValue ty))) (fun p e s m args below meth c T locs hx hZ hown hby hml hnm X eT N => ?_) (fun h' q => G h' _ rfl q.1 q.2.1 q.2.2)
  obtain ⟨T', h1, X', e', E, A, F, -, k⟩ := Jvm.RoadKit.newO X hx hZ hown w wi wz eT (g := mkF m pc ls st) rfl (hb hby hd) hc hs
  exact ⟨T', _, h1, X', e', N, Gw.ext E, ⟨E, A, F⟩, k⟩
theorem Go.newP (D : Amb κ l Z y code maxL ret rm h0 n0 Q) {aty : ArrayType} {n : Int32} {cap : Nat} (w : (Jvm.Cond.arrayClass (newarray.typeOf aty)).before a0 Z = true) (hd : decode code pc = .ok (.newarray aty, 2)) (hp : pc + 2 = pc') (hn : ¬ n < 0) (hcap : n.toNatClampNeg ≤ cap) (hb' : cap * 8 ≤ 536870912) (hce : ce + 1 = ce') (hsl : sl + cap = sl') (hc : ce' ≤ rm.cells) (hs : sl' ≤ rm.slots)
    (G : ∀ h' a k, a = h.size → Ext h h' → Arv Z h' a k (newarray.typeOf aty) n [] (defaultValue (newarray.typeOf aty)) → Go κ σ h' ce' sl' pc' ls (.ref a :: rest)) : Go κ σ h ce sl pc ls (.int n :: rest) := by
  subst hp hce hsl
  refine Go.turn D (P := fun h' => ∃ k, Ext h h' ∧ Arv Z h' h.size k (newarray.typeOf aty) n [] (defaultValue (newarray.typeOf aty))) (fun p e s m args below meth c T locs hx hZ hown hby hml hnm X eT N => ?_) (fun h' q => by obtain ⟨k, q1, q2⟩ := q; exact G h' _ k rfl q1 q2)
  obtain ⟨T', h1, k, X', e', E, A, st'⟩ := Jvm.RoadKit.newP X hx hZ w eT (g := mkF m pc ls (.int n :: rest)) rfl (hb hby hd) rfl hn hcap hb' hc hs
  exact ⟨T', _, h1, X', e', N, Gw.ext E, ⟨k, E, Arv.new A hn⟩, st'⟩
theorem Go.newPE (D : Amb κ l Z y code maxL ret rm h0 n0 Q) {aty : ArrayType} {n : Int32} {cap : Nat} {ad : String} (w : (Jvm.Cond.arrayClass (newarray.typeOf aty)).before a0 Z = true) (hd : decode code pc = .ok (.newarray aty, 2)) (hp : pc + 2 = pc') (hn : ¬ n < 0) (hcap : n.toNatClampNeg ≤ cap) (hb' : cap * 8 ≤ 536870912) (had : "[" ++ (newarray.typeOf aty).toString = ad) (hce : ce + 1 = ce') (hsl : sl + cap = sl') (hc : ce' ≤ rm.cells) (hs : sl' ≤ rm.slots)
    (G : ∀ h' a k, a = h.size → Ext h h' → Arv Z h' a k (newarray.typeOf aty) n [] (defaultValue (newarray.typeOf aty)) → Exa Z h' a ad → Go κ σ h' ce' sl' pc' ls (.ref a :: rest)) : Go κ σ h ce sl pc ls (.int n :: rest) := by
  subst hp hce hsl
  refine Go.turn D (P := fun h' => ∃ k, Ext h h' ∧ Arv Z h' h.size k (newarray.typeOf aty) n [] (defaultValue (newarray.typeOf aty)) ∧ Exa Z h' h.size ad) (fun p e s m args below meth c T locs hx hZ hown hby hml hnm X eT N => ?_) (fun h' q => by obtain ⟨k, q1, q2, q3⟩ := q; exact G h' _ k rfl q1 q2 q3)
  obtain ⟨T', h1, k, X', e', E, A, XA, st'⟩ := Jvm.RoadKit.newPE X hx hZ w eT (g := mkF m pc ls (.int n :: rest)) rfl (hb hby hd) rfl hn hcap hb' hc hs had
  exact ⟨T', _, h1, X', e', N, Gw.ext E, ⟨k, E, Arv.new A hn, XA⟩, st'⟩
theorem Go.cloneV (D : Amb κ l Z y code maxL ret rm h0 n0 Q) {idx : Nat} {ad : String} {a : Addr} {k : ClassId} {ty : FieldType} {n : Int32} {vs : List Value} {dv : Value} {cap W : Nat} (w1 : (Jvm.Cond.methodLink y.cls idx ⟨ad, "clone", "()Ljava/lang/Object;"⟩).before a0 Z = true) (w2 : (Jvm.Cond.sameMethod ad "java/lang/Object" "clone" "()Ljava/lang/Object;").before a0 Z = true) (w3 : (Jvm.Cond.native ⟨"java/lang/Object", "clone", "()Ljava/lang/Object;"⟩).before a0 Z = true)
    (w4 : (Jvm.Cond.instanceMethod ⟨"java/lang/Object", "clone", "()Ljava/lang/Object;"⟩).before a0 Z = true) (w5 : (Jvm.Cond.selects ad ⟨ad, "clone", "()Ljava/lang/Object;"⟩ ⟨"java/lang/Object", "clone", "()Ljava/lang/Object;"⟩).before a0 Z = true) (w6 : (Jvm.Cond.castable ad "java/lang/Cloneable").before a0 Z = true)
    (hd : decode code pc = .ok (.invokevirtual idx, 3)) (hp : pc + 3 = pc') (hls : ls.size = maxL) (A : Arv Z h a k ty n vs dv) (E : Exa Z h a ad) (hf : 1 ≤ rm.frames) (hW : (rest.map fun v => v.category).sum = W) (hl : W + 14 ≤ rm.locals) (hcap : n.toNatClampNeg ≤ cap) (hce : ce + 1 = ce') (hsl : sl + cap = sl') (hc : ce' ≤ rm.cells) (hs : sl' ≤ rm.slots)
    (G : ∀ h' b, b = h.size → Ext h h' → Arv Z h' b k ty n vs dv → Exa Z h' b ad → Go κ σ h' ce' sl' pc' ls (.ref b :: rest)) : Go κ σ h ce sl pc ls (.ref a :: rest) := by
  subst hp hce hsl
  refine Go.turn D (P := fun h' => Ext h h' ∧ Arv Z h' h.size k ty n vs dv ∧ Exa Z h' h.size ad) (fun p e s m args below meth c T locs hx hZ hown hby hml hnm X eT N => ?_) (fun h' q => G h' _ rfl q.1 q.2.1 q.2.2)
  obtain ⟨T', h1, X', e', E', A', XA, st'⟩ := Jvm.RoadKit.cloneH X hx hZ hown w1 w2 w3 w4 w5 w6 eT A.arh E (g := mkF m pc ls (.ref a :: rest)) rfl (hls.trans hml.symm) rfl (hb hby hd) hf (W := W) (by show 2 * 0 + _ ≤ _; rw [hW]; omega) hl hcap hc hs
  exact ⟨T', _, h1, X', e', N, Gw.ext E', ⟨E', A', XA⟩, st'⟩
theorem Go.newRE (D : Amb κ l Z y code maxL ret rm h0 n0 Q) {idx : Nat} {C : String} {n : Int32} {cap : Nat} {ad : String} (w1 : (Jvm.Cond.classLink y.cls idx C).before a0 Z = true) (w2 : (Jvm.Cond.arrayOver (.object C)).before a0 Z = true) (hd : decode code pc = .ok (.anewarray idx, 3)) (hp : pc + 3 = pc') (hn : ¬ n < 0) (hcap : n.toNatClampNeg ≤ cap) (hb' : cap * 8 ≤ 536870912) (had : "[" ++ (FieldType.object C).toString = ad) (hce : ce + 1 = ce') (hsl : sl + cap = sl') (hc : ce' ≤ rm.cells) (hs : sl' ≤ rm.slots)
    (G : ∀ h' a k, a = h.size → Ext h h' → Arv Z h' a k (.object C) n [] .null → Exa Z h' a ad → Ovr Z k C → Go κ σ h' ce' sl' pc' ls (.ref a :: rest)) : Go κ σ h ce sl pc ls (.int n :: rest) := by
  subst hp hce hsl
  refine Go.turn D (P := fun h' => ∃ k, Ext h h' ∧ Arv Z h' h.size k (.object C) n [] .null ∧ Exa Z h' h.size ad ∧ Ovr Z k C) (fun p e s m args below meth c T locs hx hZ hown hby hml hnm X eT N => ?_) (fun h' q => by obtain ⟨k, q1, q2, q3, q4⟩ := q; exact G h' _ k rfl q1 q2 q3 q4)
  obtain ⟨T', h1, k, X', e', E, A, XA, O, st'⟩ := Jvm.RoadKit.newRE X hx hZ hown w1 w2 eT (g := mkF m pc ls (.int n :: rest)) rfl (hb hby hd) rfl hn hcap hb' hc hs had
  exact ⟨T', _, h1, X', e', N, Gw.ext E, ⟨k, E, Arv.new A hn, XA, O⟩, st'⟩
theorem Go.lswHit (D : Amb κ l Z y code maxL ret rm h0 n0 Q) {k : Int32} {dflt a off : Int} {pairs : Array (Int × Int)} {len : Nat} (hd : decode code pc = .ok (.lookupswitch dflt pairs, len)) (hs : (pairs.toList.zip (pairs.toList.drop 1)).all (fun (a, next) => a.1 < next.1) = true) (hf : pairs.find? (·.1 == k.toInt) = some (a, off)) (ho : 0 ≤ (pc : Int) + off) (hp : ((pc : Int) + off).toNat = pc') (G : Go κ σ h ce sl pc' ls rest) : Go κ σ h ce sl pc ls (.int k :: rest) := by
  subst hp
  exact Go.calm D (fun p e s m args below meth c T locs hx hZ hown hby hml hh X eT => ⟨T, X, eT, fun t q => X.lookupswitchHit hx (g := mkF m pc ls (.int k :: rest)) rfl rfl (hb hby hd) hs hf ho t q⟩) G
theorem Go.lswMiss (D : Amb κ l Z y code maxL ret rm h0 n0 Q) {k : Int32} {dflt : Int} {pairs : Array (Int × Int)} {len : Nat} (hd : decode code pc = .ok (.lookupswitch dflt pairs, len)) (hs : (pairs.toList.zip (pairs.toList.drop 1)).all (fun (a, next) => a.1 < next.1) = true) (hf : pairs.find? (·.1 == k.toInt) = none) (ho : 0 ≤ (pc : Int) + dflt) (hp : ((pc : Int) + dflt).toNat = pc') (G : Go κ σ h ce sl pc' ls rest) : Go κ σ h ce sl pc ls (.int k :: rest) := by
  subst hp
  exact Go.calm D (fun p e s m args below meth c T locs hx hZ hown hby hml hh X eT => ⟨T, X, eT, fun t q => X.lookupswitchMiss hx (g := mkF m pc ls (.int k :: rest)) rfl rfl (hb hby hd) hs hf ho t q⟩) G
theorem Go.tswIn (D : Amb κ l Z y code maxL ret rm h0 n0 Q) {k : Int32} {dflt low high off : Int} {offs : Array Int} {len : Nat} (hd : decode code pc = .ok (.tableswitch dflt low high offs, len)) (hin : ¬ (k.toInt < low ∨ k.toInt > high)) (hf : offs[(k.toInt - low).toNat]? = some off) (ho : 0 ≤ (pc : Int) + off) (hp : ((pc : Int) + off).toNat = pc') (G : Go κ σ h ce sl pc' ls rest) : Go κ σ h ce sl pc ls (.int k :: rest) := by
  subst hp
  exact Go.calm D (fun p e s m args below meth c T locs hx hZ hown hby hml hh X eT => ⟨T, X, eT, fun t q => X.tableswitchIn hx (g := mkF m pc ls (.int k :: rest)) rfl rfl (hb hby hd) hin hf ho t q⟩) G
theorem Go.initO (D : Amb κ l Z y code maxL ret rm h0 n0 Q) {idx : Nat} {a : Addr} (w1 : (Jvm.Cond.methodLink y.cls idx Lib.objectInit).before a0 Z = true) (w2 : (Jvm.Cond.instanceMethod Lib.objectInit).before a0 Z = true) (w3 : (Jvm.Cond.code Lib.objectInit ⟨#[0xb1]⟩ 1 none).before a0 Z = true) (hd : decode code pc = .ok (.invokespecial idx, 3)) (hp : pc + 3 = pc') (hls : ls.size = maxL) (hf : 1 ≤ rm.frames) {W : Nat} (hW : (rest.map fun v => v.category).sum = W) (hl : W + 12 ≤ rm.locals)
    (G : Go κ σ h ce sl pc' ls rest) : Go κ σ h ce sl pc ls (.ref a :: rest) := by
  subst hp
  exact Go.calm D (fun p e s m args below meth c T locs hx hZ hown hby hml hh X eT => Jvm.RoadKit.initO X hx hZ hown w1 w2 w3 eT (g := mkF m pc ls (.ref a :: rest)) rfl (hls.trans hml.symm) rfl (hb hby hd) hf (W := W) (by show 2 * 0 + _ ≤ _; rw [hW]; omega) hl) G
/-! arrays -/
section Arrays
variable {a : Addr} {k : ClassId} {n j : Int32} {vs : List Value} {dv v : Value}
theorem Go.alen (D : Amb κ l Z y code maxL ret rm h0 n0 Q) {ty : FieldType} (hd : decode code pc = .ok (.arraylength, 1)) (hp : pc + 1 = pc') (A : Arv Z h a k ty n vs dv) (G : Go κ σ h ce sl pc' ls (.int n :: rest)) : Go κ σ h ce sl pc ls (.ref a :: rest) := by
  subst hp
  obtain ⟨c', A1, A2, A3, A4, A5, A6⟩ := A
  refine Go.calm D (fun p e s m args below meth c T locs hx hZ hown hby hml hh X eT => ⟨T, X, eT, fun t q => ?_⟩) G
  refine X.arraylength hx (by rw [eT]; exact A1.1) (State.isArrayOf_alike hZ.alike A1.2.1) (g := mkF m pc ls (.ref a :: rest)) rfl rfl (hb hby hd) t ?_
  rw [len_of A3 A4]; exact q
theorem Go.iaload (D : Amb κ l Z y code maxL ret rm h0 n0 Q) (hd : decode code pc = .ok (.iaload, 1)) (hp : pc + 1 = pc') (A : Arv Z h a k .int n vs dv) (h1 : ¬ j < 0) (h2 : j < n) (hv : vs.getD j.toNatClampNeg dv = v) (G : Go κ σ h ce sl pc' ls (v :: rest)) : Go κ σ h ce sl pc ls (.int j :: .ref a :: rest) := by
  subst hp
  obtain ⟨c', A1, A2, A3, A4, A5, A6, A7⟩ := A.inb h1 h2
  exact Go.calm D (fun p e s m args below meth c T locs hx hZ hown hby hml hh X eT => ⟨T, X, eT, fun t q => X.iaload hx (by rw [eT]; exact A1.1) (State.isArrayOf_alike hZ.alike A1.2.1) A1.2.2 A7 (A5.at A7 hv) (g := mkF m pc ls (.int j :: .ref a :: rest)) rfl rfl (hb hby hd) t q⟩) G
theorem Go.caload (D : Amb κ l Z y code maxL ret rm h0 n0 Q) (hd : decode code pc = .ok (.caload, 1)) (hp : pc + 1 = pc') (A : Arv Z h a k .char n vs dv) (h1 : ¬ j < 0) (h2 : j < n) (hv : vs.getD j.toNatClampNeg dv = v) (G : Go κ σ h ce sl pc' ls (v :: rest)) : Go κ σ h ce sl pc ls (.int j :: .ref a :: rest) := by
  subst hp
  obtain ⟨c', A1, A2, A3, A4, A5, A6, A7⟩ := A.inb h1 h2
  exact Go.calm D (fun p e s m args below meth c T locs hx hZ hown hby hml hh X eT => ⟨T, X, eT, fun t q => X.caload hx (by rw [eT]; exact A1.1) (State.isArrayOf_alike hZ.alike A1.2.1) A1.2.2 A7 (A5.at A7 hv) (g := mkF m pc ls (.int j :: .ref a :: rest)) rfl rfl (hb hby hd) t q⟩) G
theorem Go.baload (D : Amb κ l Z y code maxL ret rm h0 n0 Q) (hd : decode code pc = .ok (.baload, 1)) (hp : pc + 1 = pc') (A : Arv Z h a k .byte n vs dv) (h1 : ¬ j < 0) (h2 : j < n) (hv : vs.getD j.toNatClampNeg dv = v) (G : Go κ σ h ce sl pc' ls (v :: rest)) : Go κ σ h ce sl pc ls (.int j :: .ref a :: rest) := by
  subst hp
  obtain ⟨c', A1, A2, A3, A4, A5, A6, A7⟩ := A.inb h1 h2
  exact Go.calm D (fun p e s m args below meth c T locs hx hZ hown hby hml hh X eT => ⟨T, X, eT, fun t q => X.baloadBytes hx (by rw [eT]; exact A1.1) (State.isArrayOf_alike hZ.alike A1.2.1) A1.2.2 A7 (A5.at A7 hv) (g := mkF m pc ls (.int j :: .ref a :: rest)) rfl rfl (hb hby hd) t q⟩) G
theorem Go.aaload (D : Amb κ l Z y code maxL ret rm h0 n0 Q) {C : String} (hd : decode code pc = .ok (.aaload, 1)) (hp : pc + 1 = pc') (A : Arv Z h a k (.object C) n vs dv) (h1 : ¬ j < 0) (h2 : j < n) (hv : vs.getD j.toNatClampNeg dv = v) (G : Go κ σ h ce sl pc' ls (v :: rest)) : Go κ σ h ce sl pc ls (.int j :: .ref a :: rest) := by
  subst hp
  obtain ⟨c', A1, A2, A3, A4, A5, A6, A7⟩ := A.inb h1 h2
  exact Go.calm D (fun p e s m args below meth c T locs hx hZ hown hby hml hh X eT => ⟨T, X, eT, fun t q => X.aaload hx (by rw [eT]; exact A1.1) (State.isArrayOf_alike hZ.alike A1.2.1) rfl A1.2.2 A7 (A5.at A7 hv) (g := mkF m pc ls (.int j :: .ref a :: rest)) rfl rfl (hb hby hd) t q⟩) G
theorem Go.aastore (D : Amb κ l Z y code maxL ret rm h0 n0 Q) {C : String} {b : Addr} {i : Nat} (hd : decode code pc = .ok (.aastore, 1)) (hp : pc + 1 = pc') (A : Arv Z h a k (.object C) n vs dv) (O : Ovr Z k C) (I : Ins Z h b C true) (h1 : ¬ j < 0) (h2 : j < n) (hj : j.toNatClampNeg = i) (hi : i < vs.length) (ge : n0 ≤ a)
    (G : ∀ h', Keep h h' [a] → Arv Z h' a k (.object C) n (vs.set i (.ref b)) dv → Go κ σ h' ce sl pc' ls rest) : Go κ σ h ce sl pc ls (.ref b :: .int j :: .ref a :: rest) := by
  subst hp
  obtain ⟨c', A1, A2, A3, A4, A5, A6, A7⟩ := A.inb h1 h2
  refine Go.turn D (P := fun h' => Keep h h' [a] ∧ Arv Z h' a k (.object C) n (vs.set i (.ref b)) dv) (fun p e s m args below meth c T locs hx hZ hown hby hml hnm X eT N => ?_) (fun h' q => G h' q.1 q.2)
  obtain ⟨T', h1, X', e', W, q⟩ := Jvm.RoadKit.stR X hx hZ eT A1 A7 rfl (Sto.ofV A1 A2 O I) (g := mkF m pc ls (.ref b :: .int j :: .ref a :: rest)) rfl rfl (hb hby hd)
  exact ⟨T', _, h1, X', e', Fr.snoc X' N ge, Gw.one (Keep.of_wr W) ge, ⟨Keep.of_wr W, Arv.set A1 A2 A3 A4 A5 A6 rfl W i hj hi⟩, q⟩
theorem Go.iastore (D : Amb κ l Z y code maxL ret rm h0 n0 Q) {x : Int32} {i : Nat} (hd : decode code pc = .ok (.iastore, 1)) (hp : pc + 1 = pc') (A : Arv Z h a k .int n vs dv) (h1 : ¬ j < 0) (h2 : j < n) (hj : j.toNatClampNeg = i) (hi : i < vs.length) (ge : n0 ≤ a)
    (G : ∀ h', Keep h h' [a] → Arv Z h' a k .int n (vs.set i (.int x)) dv → Go κ σ h' ce sl pc' ls rest) : Go κ σ h ce sl pc ls (.int x :: .int j :: .ref a :: rest) := by
  subst hp
  obtain ⟨c', A1, A2, A3, A4, A5, A6, A7⟩ := A.inb h1 h2
  refine Go.turn D (P := fun h' => Keep h h' [a] ∧ Arv Z h' a k .int n (vs.set i (.int x)) dv) (fun p e s m args below meth c T locs hx hZ hown hby hml hnm X eT N => ?_) (fun h' q => G h' q.1 q.2)
  obtain ⟨T', h1, X', e', W, q⟩ := stI X hx hZ eT A1 A7 (g := mkF m pc ls (.int x :: .int j :: .ref a :: rest)) rfl rfl (hb hby hd)
  exact ⟨T', _, h1, X', e', Fr.snoc X' N ge, Gw.one (Keep.of_wr W) ge, ⟨Keep.of_wr W, Arv.set A1 A2 A3 A4 A5 A6 rfl W i hj hi⟩, q⟩
theorem Go.castore (D : Amb κ l Z y code maxL ret rm h0 n0 Q) {x x' : Int32} {i : Nat} (hd : decode code pc = .ok (.castore, 1)) (hp : pc + 1 = pc') (A : Arv Z h a k .char n vs dv) (h1 : ¬ j < 0) (h2 : j < n) (hj : j.toNatClampNeg = i) (hi : i < vs.length) (ge : n0 ≤ a) (hx' : nar .char x = x')
    (G : ∀ h', Keep h h' [a] → Arv Z h' a k .char n (vs.set i (.int x')) dv → Go κ σ h' ce sl pc' ls rest) : Go κ σ h ce sl pc ls (.int x :: .int j :: .ref a :: rest) := by
  subst hp hx'
  obtain ⟨c', A1, A2, A3, A4, A5, A6, A7⟩ := A.inb h1 h2
  refine Go.turn D (P := fun h' => Keep h h' [a] ∧ Arv Z h' a k .char n (vs.set i (.int (nar .char x))) dv) (fun p e s m args below meth c T locs hx hZ hown hby hml hnm X eT N => ?_) (fun h' q => G h' q.1 q.2)
  obtain ⟨T', h1, X', e', W, q⟩ := stC X hx hZ eT A1 A7 (g := mkF m pc ls (.int x :: .int j :: .ref a :: rest)) rfl rfl (hb hby hd)
  exact ⟨T', _, h1, X', e', Fr.snoc X' N ge, Gw.one (Keep.of_wr W) ge, ⟨Keep.of_wr W, Arv.set A1 A2 A3 A4 A5 A6 (fits_nar_char x) W i hj hi⟩, q⟩
theorem Go.bastore (D : Amb κ l Z y code maxL ret rm h0 n0 Q) {x x' : Int32} {i : Nat} (hd : decode code pc = .ok (.bastore, 1)) (hp : pc + 1 = pc') (A : Arv Z h a k .byte n vs dv) (h1 : ¬ j < 0) (h2 : j < n) (hj : j.toNatClampNeg = i) (hi : i < vs.length) (ge : n0 ≤ a) (hx' : nar .byte x = x')
    (G : ∀ h', Keep h h' [a] → Arv Z h' a k .byte n (vs.set i (.int x')) dv → Go κ σ h' ce sl pc' ls rest) : Go κ σ h ce sl pc ls (.int x :: .int j :: .ref a :: rest) := by
  subst hp hx'
  obtain ⟨c', A1, A2, A3, A4, A5, A6, A7⟩ := A.inb h1 h2
  refine Go.turn D (P := fun h' => Keep h h' [a] ∧ Arv Z h' a k .byte n (vs.set i (.int (nar .byte x))) dv) (fun p e s m args below meth c T locs hx hZ hown hby hml hnm X eT N => ?_) (fun h' q => G h' q.1 q.2)
  obtain ⟨T', h1, X', e', W, q⟩ := stB X hx hZ eT A1 A7 (g := mkF m pc ls (.int x :: .int j :: .ref a :: rest)) rfl rfl (hb hby hd)
  exact ⟨T', _, h1, X', e', Fr.snoc X' N ge, Gw.one (Keep.of_wr W) ge, ⟨Keep.of_wr W, Arv.set A1 A2 A3 A4 A5 A6 (fits_nar_byte x) W i hj hi⟩, q⟩
end Arrays
/-! classes of objects -/
theorem Go.castY (D : Amb κ l Z y code maxL ret rm h0 n0 Q) {idx : Nat} {K : String} {a : Addr} (w : (Jvm.Cond.classLink y.cls idx K).before a0 Z = true) (hd : decode code pc = .ok (.checkcast idx, 3)) (hp : pc + 3 = pc') (F : Ins Z h a K true) (G : Go κ σ h ce sl pc' ls (.ref a :: rest)) : Go κ σ h ce sl pc ls (.ref a :: rest) := by
  subst hp
  exact Go.calm D (fun p e s m args below meth c T locs hx hZ hown hby hml hh X eT => Jvm.RoadKit.castY X hx hZ hown w eT F (g := mkF m pc ls (.ref a :: rest)) rfl rfl (hb hby hd)) G
theorem Go.instY (D : Amb κ l Z y code maxL ret rm h0 n0 Q) {idx : Nat} {K : String} {a : Addr} (w : (Jvm.Cond.classLink y.cls idx K).before a0 Z = true) (hd : decode code pc = .ok (.instanceof idx, 3)) (hp : pc + 3 = pc') (F : Ins Z h a K true) (G : Go κ σ h ce sl pc' ls (.int 1 :: rest)) : Go κ σ h ce sl pc ls (.ref a :: rest) := by
  subst hp
  exact Go.calm D (fun p e s m args below meth c T locs hx hZ hown hby hml hh X eT => Jvm.RoadKit.instY X hx hZ hown w eT F (g := mkF m pc ls (.ref a :: rest)) rfl rfl (hb hby hd)) G
theorem Go.instN (D : Amb κ l Z y code maxL ret rm h0 n0 Q) {idx : Nat} {K C : String} {a : Addr} (w : (Jvm.Cond.classLink y.cls idx K).before a0 Z = true) (hd : decode code pc = .ok (.instanceof idx, 3)) (hp : pc + 3 = pc') (F : ∃ c t, Z.vm.findClass C = some c ∧ Z.vm.findClass K = some t ∧ Z.vm.assignable c t = false) (E : Exa Z h a C) (G : Go κ σ h ce sl pc' ls (.int 0 :: rest)) : Go κ σ h ce sl pc ls (.ref a :: rest) := by
  subst hp
  exact Go.calm D (fun p e s m args below meth c T locs hx hZ hown hby hml hh X eT => instNo X hx hZ hown w eT E F (g := mkF m pc ls (.ref a :: rest)) rfl rfl (hb hby hd)) G
theorem Go.instNull (D : Amb κ l Z y code maxL ret rm h0 n0 Q) {idx : Nat} (hd : decode code pc = .ok (.instanceof idx, 3)) (hp : pc + 3 = pc') (G : Go κ σ h ce sl pc' ls (.int 0 :: rest)) : Go κ σ h ce sl pc ls (.null :: rest) := by
  subst hp
  exact Go.calm D (fun p e s m args below meth c T locs hx hZ hown hby hml hh X eT => ⟨T, X, eT, X.instanceofNull hx (g := mkF m pc ls (.null :: rest)) rfl rfl (hb hby hd)⟩) G
theorem Go.acmpNe (D : Amb κ l Z y code maxL ret rm h0 n0 Q) {o : Int} {x z : Value} (h1 : x.isRef = true) (h2 : z.isRef = true) (hd : decode code pc = .ok (.if_acmp .ne o, 3)) (ho : 0 ≤ (pc : Int) + o) (hp : ((pc : Int) + o).toNat = pc') (hp2 : pc + 3 = pc2)
    (Gt : ¬ x = z → Go κ σ h ce sl pc' ls rest) (Gf : x = z → Go κ σ h ce sl pc2 ls rest) : Go κ σ h ce sl pc ls (z :: x :: rest) := by
  subst hp hp2
  by_cases q : x = z
  · exact Go.calm D (fun p e s m args below meth c T locs hx hZ hown hby hml hh X eT => ⟨T, X, eT, fun t k => acmp (g := mkF m pc ls (z :: x :: rest)) X hx rfl h1 h2 (same := true) rfl (hb hby hd) rfl (by simp [q]) ho (by simp [acV]) k⟩) (Gf q)
  · exact Go.calm D (fun p e s m args below meth c T locs hx hZ hown hby hml hh X eT => ⟨T, X, eT, fun t k => acmp (g := mkF m pc ls (z :: x :: rest)) X hx rfl h1 h2 (same := false) rfl (hb hby hd) rfl (by simp [q]) ho (by simp [acV]) k⟩) (Gt q)
theorem Go.acmpEq (D : Amb κ l Z y code maxL ret rm h0 n0 Q) {o : Int} {x z : Value} (h1 : x.isRef = true) (h2 : z.isRef = true) (hd : decode code pc = .ok (.if_acmp .eq o, 3)) (ho : 0 ≤ (pc : Int) + o) (hp : ((pc : Int) + o).toNat = pc') (hp2 : pc + 3 = pc2)
    (Gt : x = z → Go κ σ h ce sl pc' ls rest) (Gf : ¬ x = z → Go κ σ h ce sl pc2 ls rest) : Go κ σ h ce sl pc ls (z :: x :: rest) := by
  subst hp hp2
  by_cases q : x = z
  · exact Go.calm D (fun p e s m args below meth c T locs hx hZ hown hby hml hh X eT => ⟨T, X, eT, fun t k => acmp (g := mkF m pc ls (z :: x :: rest)) X hx rfl h1 h2 (same := true) rfl (hb hby hd) rfl (by simp [q]) ho (by simp [acV]) k⟩) (Gt q)
  · exact Go.calm D (fun p e s m args below meth c T locs hx hZ hown hby hml hh X eT => ⟨T, X, eT, fun t k => acmp (g := mkF m pc ls (z :: x :: rest)) X hx rfl h1 h2 (same := false) rfl (hb hby hd) rfl (by simp [q]) ho (by simp [acV]) k⟩) (Gf q)
/-! System.arraycopy -/
theorem Go.acopy (D : Amb κ l Z y code maxL ret rm h0 n0 Q) {idx sN dN nN : Nat} {a b : Addr} {k k' : ClassId} {ty : FieldType} {z z' sp dp nn : Int32} {vs vd : List Value} {dv dd : Value} (w1 : (Jvm.Cond.methodLink y.cls idx Jvm.Stand.acN).before a0 Z = true) (w2 : (Jvm.Cond.native Jvm.Stand.acN).before a0 Z = true) (w3 : (Jvm.Cond.static Jvm.Stand.acN).before a0 Z = true) (w4 : (Jvm.Cond.initialized "java/lang/System").before a0 Z = true)
    (hd : decode code pc = .ok (.invokestatic idx, 3)) (hp : pc + 3 = pc') (A : Arv Z h a k ty z vs dv) (B : Arv Z h b k' ty z' vd dd) (hty : refKind ty = false) (h1 : ¬ sp < 0) (h2 : ¬ dp < 0) (h3 : ¬ nn < 0) (e1 : sp.toNatClampNeg = sN) (e2 : dp.toNatClampNeg = dN) (e3 : nn.toNatClampNeg = nN) (h4 : sN + nN ≤ z.toNatClampNeg) (h5 : dN + nN ≤ z'.toNatClampNeg)
    (hl : dN + nN ≤ vd.length) (ge : n0 ≤ b) (hls : ls.size = maxL) (hf : 1 ≤ rm.frames) {W : Nat} (hW : (rest.map fun v => v.category).sum = W) (hlo : W + (nativeFrameWords "java/lang/System" "arraycopy" 5 + 11) ≤ rm.locals)
    (G : ∀ h', Keep h h' [b] → Arv Z h' b k' ty z' (vd.take dN ++ ((List.range nN).map fun i => vs.getD (sN + i) dv) ++ vd.drop (dN + nN)) dd → Go κ σ h' ce sl pc' ls rest) : Go κ σ h ce sl pc ls (.int nn :: .int dp :: .ref b :: .int sp :: .ref a :: rest) := by
  subst hp e1 e2 e3
  refine Go.turn D (P := fun h' => Keep h h' [b] ∧ Arv Z h' b k' ty z' (vd.take dp.toNatClampNeg ++ ((List.range nn.toNatClampNeg).map fun i => vs.getD (sp.toNatClampNeg + i) dv) ++ vd.drop (dp.toNatClampNeg + nn.toNatClampNeg)) dd) (fun p e s m args below meth c T locs hx hZ hown hby hml hnm X eT N => ?_) (fun h' q => G h' q.1 q.2)
  obtain ⟨T', h1, L, X', e', N', K, A', q⟩ := cpA X hx hZ hown w1 w2 w3 w4 eT A B (Or.inl ⟨rfl, hty⟩) h1 h2 h3 h4 h5 rfl hl N ge (g := mkF m pc ls (.int nn :: .int dp :: .ref b :: .int sp :: .ref a :: rest)) rfl (hls.trans hml.symm) rfl (hb hby hd) hf (W := W) (by show 2 * 0 + _ ≤ _; rw [hW]; omega) hlo
  exact ⟨T', L, h1, X', e', N', Gw.one K ge, ⟨K, A'⟩, q⟩
theorem nin1 {x y : Addr} (q : x ≠ y) : x ∉ [y] := fun z => q (List.mem_singleton.mp z)
/-! calls -/
section Calls
variable {z : MethodName} {bytes : ByteArray} {maxLz : Nat} {retz : Option FieldType} {rmz : Room} {argsL : List Value} {Qz : Option Value → Heap → Sg → Prop} {idx : Nat} {ps : List FieldType} {rt : Option FieldType}
theorem backOfW {p : Program} {e : Env} {R : Room} {s : State} {args : Array Value} {below : List Frame} {len W : Nat} (hM : Con l Z z bytes maxLz retz rmz [] as σ h n0 Qz)
    (hZ : Z.Warmed39 s.vm) (wc : (Jvm.Cond.code z bytes maxLz retz).before a0 Z = true) (wz : (Jvm.Cond.initialized z.cls).before a0 Z = true) (hf : rmz.frames + 1 ≤ R.frames) (hl : W + (maxLz + 11) + rmz.locals ≤ R.locals) :
    BackS l R p e below s args z len W (fun A a => a = as ∧ A.U.heap = h ∧ A.cells + rmz.cells ≤ R.cells ∧ A.slots + rmz.slots ≤ R.slots ∧ VOk Z A.U.vm σ ∧ Old Z n0 A.U.heap)
      (fun A _ v B => ∃ L σ', (Fr n0 L ∧ VOk Z B.U.vm σ' ∧ Old Z n0 B.U.heap ∧ Qz v B.U.heap σ') ∧ B.locs = A.locs ++ L ∧ B.cells = A.cells + rmz.cells ∧ B.slots = A.slots + rmz.slots) :=
  BackS.of_freeW (bytes := bytes) (maxL := maxLz) (ret := retz) (E := fun _ _ o t L k n => k = rmz.cells ∧ n = rmz.slots ∧ ∃ v σ', o = .returned v ∧ (Fr n0 L ∧ VOk Z t.vm σ' ∧ Old Z n0 t.heap ∧ Qz v t.heap σ')) hM hf hl
    (fun m meth c A a Y hp => have hU : Z.Warmed39 A.U.vm := wtrans hZ Y.warmed
      ⟨by show (Jvm.Cond.and _ .tt).before a A.U = true; rw [Cond.before_and, mv hU wc]; rfl, mv hU wc, mv hU wz, hp.2.2.1, hp.2.2.2.1⟩)
    (fun m meth c A a g mk Y hp => ⟨hp.1, wtrans hZ Y.warmed, hp.2.1, hp.2.2.2.2.1, hp.2.2.2.2.2⟩) (fun _ _ _ _ _ _ _ _ _ => trivial)
    (fun _ _ _ _ ⟨v, L, σ', h1, h2, h3⟩ => ⟨L, _, _, h3, rfl, rfl, v, σ', h1, h2⟩)
    (fun m meth c A a g mk v t L k n Y hp _ _ ⟨e1, e2, v', σ', e3, e4⟩ => by cases e3; subst e1 e2; exact ⟨L, σ', e4, rfl, rfl, rfl⟩)
theorem Go.callS (D : Amb κ l Z y code maxL ret rm h0 n0 Q) (M : Con l Z z bytes maxLz retz rmz [] argsL.toArray σ h n0 Qz) (w1 : (Jvm.Cond.methodLink y.cls idx z).before a0 Z = true) (w2 : (Jvm.Cond.static z).before a0 Z = true) (w3 : (Jvm.Cond.initialized z.cls).before a0 Z = true) (w4 : (Jvm.Cond.code z bytes maxLz retz).before a0 Z = true)
    (hz : z.cls ≠ "java/lang/invoke/MethodHandle" ∧ z.cls ≠ "java/lang/invoke/VarHandle") (hd : decode code pc = .ok (.invokestatic idx, 3)) (hp : pc + 3 = pc') (hpd : parseMethodDescriptor z.desc = some ⟨ps, rt⟩) (hlen : argsL.length = ps.length) (hst : st = argsL.reverse ++ rest) (hls : ls.size = maxL)
    (hf : rmz.frames + 1 ≤ rm.frames) {W : Nat} (hW : (rest.map fun v => v.category).sum = W) (hlo : W + (maxLz + 11) + rmz.locals ≤ rm.locals) (hce : ce + rmz.cells ≤ ce') (hsl : sl + rmz.slots ≤ sl') (hc : ce' ≤ rm.cells) (hs : sl' ≤ rm.slots)
    (G : ∀ v h' σ', Qz v h' σ' → Go κ σ' h' ce' sl' pc' ls (v.toList ++ rest)) : Go κ σ h ce sl pc ls st := by
  subst hp
  obtain ⟨p, l', e, R, s, m, args, below, meth, c, Z', n0', Q'⟩ := κ
  obtain ⟨rfl, rfl, rfl, rfl, hQ, hx, hZ, hown, hby, hml, hret, hlk, hnm, hh⟩ := D
  intro vm0 k0 T locs X hS hk V O eT N
  have hZ0 : Z'.Warmed39 (s.setVm vm0).vm := State.Warmed39.trans (t := s) hZ hS.1
  have hown0 : (s.setVm vm0).vm.findClass y.cls = some m.cls := by show vm0.findClass _ = _; rw [hS.1.alike.findClass]; exact hown
  obtain ⟨v, vm₁, ⟨T1, L1, k1, n1⟩, -, X1, hS1, hsz, ⟨Lc, σ', hQ1, l1, y1, z1⟩, st1⟩ := callSS X hx (y := z) hown0 (mvT hZ0 w1) (mvT hZ0 w2) (mvT hZ0 w3) (mvT hZ0 w4) hz (backOfW (W := W) M hZ0 w4 w3 hf hlo) (g := mkF m pc ls st) rfl (hls.trans hml.symm) (argsL := argsL) (rest := rest) (lenOf hpd hlen) hst (by show 2 * 0 + _ ≤ _; rw [hW]; omega) (hb hby hd) (fun vm₁ hw1 => ⟨rfl, eT, Nat.le_trans hce hc, Nat.le_trans hsl hs, V.warm hw1, by show Old _ _ T.heap; rw [eT]; exact O⟩)
  dsimp only [Pt.U, Pt.locs, Pt.cells, Pt.slots] at X1 l1 y1 z1 st1 hQ1 hS1 hsz
  subst l1 y1 z1
  obtain ⟨s₂, o, g1, g2⟩ := G v T1.heap σ' hQ1.2.2.2 T1.vm T1.heap.size T1 _ (sd_mono X1 hce hsl) (hS.trans hS1 (by rw [eT] at hsz; exact Nat.le_trans hk hsz)) (Nat.le_refl _) hQ1.2.1 hQ1.2.2.1 rfl (Fr.app N hQ1.1)
  exact ⟨s₂, o, st1.trans g1, g2⟩
theorem Go.callI (D : Amb κ l Z y code maxL ret rm h0 n0 Q) {a : Addr} (M : Con l Z z bytes maxLz none rmz [] (.ref a :: argsL).toArray σ h n0 Qz) (hz1 : z.name = "<init>") (w1 : (Jvm.Cond.methodLink y.cls idx z).before a0 Z = true) (w2 : (Jvm.Cond.instanceMethod z).before a0 Z = true) (w3 : (Jvm.Cond.initialized z.cls).before a0 Z = true) (w4 : (Jvm.Cond.code z bytes maxLz none).before a0 Z = true)
    (hz : z.cls ≠ "java/lang/invoke/MethodHandle" ∧ z.cls ≠ "java/lang/invoke/VarHandle") (hd : decode code pc = .ok (.invokespecial idx, 3)) (hp : pc + 3 = pc') (hpd : parseMethodDescriptor z.desc = some ⟨ps, rt⟩) (hlen : argsL.length = ps.length) (hst : st = argsL.reverse ++ .ref a :: rest) (hls : ls.size = maxL)
    (hf : rmz.frames + 1 ≤ rm.frames) {W : Nat} (hW : (rest.map fun v => v.category).sum = W) (hlo : W + (maxLz + 11) + rmz.locals ≤ rm.locals) (hce : ce + rmz.cells ≤ ce') (hsl : sl + rmz.slots ≤ sl') (hc : ce' ≤ rm.cells) (hs : sl' ≤ rm.slots)
    (G : ∀ v h' σ', Qz v h' σ' → Go κ σ' h' ce' sl' pc' ls (v.toList ++ rest)) : Go κ σ h ce sl pc ls st := by
  subst hp
  obtain ⟨p, l', e, R, s, m, args, below, meth, c, Z', n0', Q'⟩ := κ
  obtain ⟨rfl, rfl, rfl, rfl, hQ, hx, hZ, hown, hby, hml, hret, hlk, hnm, hh⟩ := D
  intro vm0 k0 T locs X hS hk V O eT N
  have hZ0 : Z'.Warmed39 (s.setVm vm0).vm := State.Warmed39.trans (t := s) hZ hS.1
  have hown0 : (s.setVm vm0).vm.findClass y.cls = some m.cls := by show vm0.findClass _ = _; rw [hS.1.alike.findClass]; exact hown
  obtain ⟨v, vm₁, ⟨T1, L1, k1, n1⟩, -, X1, hS1, hsz, ⟨Lc, σ', hQ1, l1, y1, z1⟩, st1⟩ := X.specialBackS hx (y := z) hz1 hown0 (mvT hZ0 w1) (mvT hZ0 w2) (mvT hZ0 w4) hz (backOfW (W := W) M hZ0 w4 w3 hf hlo) (g := mkF m pc ls st) rfl (hls.trans hml.symm) (Steps.refl _) (a := a) (argsL := argsL) (rest := rest) (lenOf hpd hlen) hst (by show 2 * 0 + _ ≤ _; rw [hW]; omega) (hb hby hd) (fun vm₁ hw1 => ⟨rfl, eT, Nat.le_trans hce hc, Nat.le_trans hsl hs, V.warm hw1, by show Old _ _ T.heap; rw [eT]; exact O⟩)
  dsimp only [Pt.U, Pt.locs, Pt.cells, Pt.slots] at X1 l1 y1 z1 st1 hQ1 hS1 hsz
  subst l1 y1 z1
  obtain ⟨s₂, o, g1, g2⟩ := G v T1.heap σ' hQ1.2.2.2 T1.vm T1.heap.size T1 _ (sd_mono X1 hce hsl) (hS.trans hS1 (by rw [eT] at hsz; exact Nat.le_trans hk hsz)) (Nat.le_refl _) hQ1.2.1 hQ1.2.2.1 rfl (Fr.app N hQ1.1)
  exact ⟨s₂, o, st1.trans g1, g2⟩
theorem Go.callV (D : Amb κ l Z y code maxL ret rm h0 n0 Q) {a : Addr} {C : String} {zr : MethodName} (M : Con l Z z bytes maxLz retz rmz [] (.ref a :: argsL).toArray σ h n0 Qz) (w1 : (Jvm.Cond.methodLink y.cls idx zr).before a0 Z = true) (w2 : (Jvm.Cond.declares zr).before a0 Z = true) (ws : (Jvm.Cond.selects C zr z).before a0 Z = true) (wi : (Jvm.Cond.instanceMethod z).before a0 Z = true) (w3 : (Jvm.Cond.initialized z.cls).before a0 Z = true) (w4 : (Jvm.Cond.code z bytes maxLz retz).before a0 Z = true)
    (nf : ∀ s : State, Z.Warmed39 s.vm → NotFace s zr) (hz : zr.cls ≠ "java/lang/invoke/MethodHandle" ∧ zr.cls ≠ "java/lang/invoke/VarHandle") (E : Exa Z h a C) (hd : decode code pc = .ok (.invokevirtual idx, 3)) (hp : pc + 3 = pc') (hpd : parseMethodDescriptor zr.desc = some ⟨ps, rt⟩) (hlen : argsL.length = ps.length) (hst : st = argsL.reverse ++ .ref a :: rest) (hls : ls.size = maxL)
    (hf : rmz.frames + 1 ≤ rm.frames) {W : Nat} (hW : (rest.map fun v => v.category).sum = W) (hlo : W + (maxLz + 11) + rmz.locals ≤ rm.locals) (hce : ce + rmz.cells ≤ ce') (hsl : sl + rmz.slots ≤ sl') (hc : ce' ≤ rm.cells) (hs : sl' ≤ rm.slots)
    (G : ∀ v h' σ', Qz v h' σ' → Go κ σ' h' ce' sl' pc' ls (v.toList ++ rest)) : Go κ σ h ce sl pc ls st := by
  subst hp
  obtain ⟨p, l', e, R, s, m, args, below, meth, c, Z', n0', Q'⟩ := κ
  obtain ⟨rfl, rfl, rfl, rfl, hQ, hx, hZ, hown, hby, hml, hret, hlk, hnm, hh⟩ := D
  intro vm0 k0 T locs X hS hk V O eT N
  have hZ0 : Z'.Warmed39 (s.setVm vm0).vm := State.Warmed39.trans (t := s) hZ hS.1
  have hown0 : (s.setVm vm0).vm.findClass y.cls = some m.cls := by show vm0.findClass _ = _; rw [hS.1.alike.findClass]; exact hown
  obtain ⟨cq, kq, q1, q2, q3⟩ := isOf hZ0 eT E
  obtain ⟨v, vm₁, ⟨T1, L1, k1, n1⟩, -, X1, hS1, hsz, ⟨Lc, σ', hQ1, l1, y1, z1⟩, st1⟩ := X.virtualBackS hx (y := zr) (z := z) hown0 (mvT hZ0 w1) (mvT hZ0 w2) (nf _ hZ0) (mvT hZ0 ws) (mvT hZ0 wi) hz (backOfW (W := W) M hZ0 w4 w3 hf hlo) q1 q3 (g := mkF m pc ls st) rfl (hls.trans hml.symm) (Steps.refl _) (argsL := argsL) (rest := rest) (lenOf hpd hlen) hst (by show 2 * 0 + _ ≤ _; rw [hW]; omega) (hb hby hd) (fun vm₁ hw1 => ⟨rfl, eT, Nat.le_trans hce hc, Nat.le_trans hsl hs, V.warm hw1, by show Old _ _ T.heap; rw [eT]; exact O⟩)
  dsimp only [Pt.U, Pt.locs, Pt.cells, Pt.slots] at X1 l1 y1 z1 st1 hQ1 hS1 hsz
  subst l1 y1 z1
  obtain ⟨s₂, o, g1, g2⟩ := G v T1.heap σ' hQ1.2.2.2 T1.vm T1.heap.size T1 _ (sd_mono X1 hce hsl) (hS.trans hS1 (by rw [eT] at hsz; exact Nat.le_trans hk hsz)) (Nat.le_refl _) hQ1.2.1 hQ1.2.2.1 rfl (Fr.app N hQ1.1)
  exact ⟨s₂, o, st1.trans g1, g2⟩
theorem nfS {C : String} {y : MethodName} (h : (Jvm.Cond.selects C y y).before a0 Z = true) : ∀ s : State, Z.Warmed39 s.vm → NotFace s y := fun s hZ => notFace_of_selects (args := #[]) (mvT hZ h)
end Calls
/-! String constants -/
/-- a constant whose text nobody reads -/
theorem Go.ldcR (D : Amb κ l Z y code maxL ret rm h0 n0 Q) {idx n : Nat} {text : String} (w : (Jvm.Cond.stringLink y.cls idx text).before a0 Z = true) (wS : ∀ a ∈ Bundle.stringAtoms, a.before a0 Z = true) (hd : decode code pc = .ok (.ldc idx, 2)) (hp : pc + 2 = pc') (hn : 4 * text.toList.length ≤ n) (hbig : n ≤ 536870912) (hce : ce + 2 = ce') (hsl : sl + (n + 4) = sl') (hc : ce' ≤ rm.cells) (hs : sl' ≤ rm.slots)
    (G : ∀ h' a, Ext h h' → Go κ none h' ce' sl' pc' ls (.ref a :: st)) : Go κ none h ce sl pc ls st := by
  subst hp hce hsl
  obtain ⟨p, l', e, R, s, m, args, below, meth, c, Z', n0', Q'⟩ := κ
  obtain ⟨rfl, rfl, rfl, rfl, hQ, hx, hZ, hown, hby, hml, hret, hlk, hnm, hh⟩ := D
  intro vm0 k0 T locs X hS hk V O eT N
  have hZ0 : Z'.Warmed39 vm0 := State.Warmed39.trans (t := s) hZ hS.1
  have hown0 : vm0.findClass y.cls = some m.cls := by rw [hS.1.alike.findClass]; exact hown
  obtain ⟨a, T', h', k1, X', eT', E, hS', hk', -, -, k⟩ := ldcS X hx hZ0 hown0 w wS eT hS hk (g := mkF m pc ls st) rfl (hb hby hd) hn hbig hc hs
  obtain ⟨s₂, o, g1, g2⟩ := G h' a E T'.vm k1 T' locs X' hS' hk' trivial (O.ext E) eT' N
  exact ⟨s₂, o, k _ g1, g2⟩
/-- the same place of a walk, over a start that has the heap and the tables at hand -/
theorem reb {p : Program} {e : Env} {R : Room} {s : State} {m : MethodId} {args : Array Value} {below : List Frame} {meth : Method} {c : Code} {T : State} {locs : List Loc} (X : Stand p l e R s m args below meth c T locs ce sl) (hc : ce ≤ R.cells) (hs : sl ≤ R.slots) :
    Stand p l e { R with cells := R.cells - ce, slots := R.slots - sl } ({ (s.setVm T.vm) with heap := T.heap, slotsUsed := T.slotsUsed } : State) m args below meth c T [] 0 0 := by
  have Y := X.retabled X.warmed.wide
  refine { admits := X.admits, cas := X.cas, clock := X.clock, frames := X.frames, room := ?_, hears := Y.hears, method := Y.method, code := X.code, here := X.here, tail := X.tail, warmed := State.WarmedH.refl _, limits := X.limits, bytes := X.bytes, same := ?_ }
  · have r := Y.room
    have b := X.book
    have h1 := X.heapSize
    have h2 := X.used
    simp only [State.hasRoom, Bool.and_eq_true, decide_eq_true_eq] at r ⊢
    obtain ⟨⟨⟨⟨r1, r2⟩, r3⟩, r4⟩, r5⟩ := r
    refine ⟨⟨⟨⟨r1, r2⟩, ?_⟩, ?_⟩, b⟩
    · have r3' : s.heap.size + R.cells ≤ e.platform.maxCells := r3
      show T.heap.size + (R.cells - ce) ≤ e.platform.maxCells
      omega
    · have r4' : s.slotsUsed + R.slots ≤ e.platform.maxSlots := r4
      show T.slotsUsed + (R.slots - sl) ≤ e.platform.maxSlots
      omega
  · refine ⟨?_, Nat.le_refl _, by show T.heap.size ≤ T.heap.size + 0; omega, ?_, ?_, fun a c hc => ⟨c, hc, rfl, rfl, fun _ _ => rfl⟩⟩
    · have q := congrArg (fun u : State => u.setVm T.vm) X.same.1
      exact q
    · show T.slotsUsed = T.slotsUsed + ((T.heap.toList.drop T.heap.size).map (·.slots.size)).sum
      rw [List.drop_eq_nil_of_le (by simp)]; simp
    · show ((T.heap.toList.drop T.heap.size).map (·.slots.size)).sum ≤ 0
      rw [List.drop_eq_nil_of_le (by simp)]; simp
/-- a String that spells these bytes -/
def SC (Z : State) (h : Heap) (a : Addr) (z : Int32) (vs : List Value) : Prop := Exa Z h a "java/lang/String" ∧ Fld Z h a "java/lang/String" "coder" "B" (.int 0) ∧ ∃ (b : Addr) (k : ClassId), Fld Z h a "java/lang/String" "value" "[B" (.ref b) ∧ Arv Z h b k .byte z vs (.int 0)
theorem SC.ext {a : Addr} {z : Int32} {vs : List Value} (F : SC Z h a z vs) (E : Ext h h') : SC Z h' a z vs := by
  obtain ⟨f1, f2, b, k, f3, f4⟩ := F
  exact ⟨f1.ext E, f2.ext E, b, k, f3.ext E, f4.ext E⟩
theorem SC.wr {a s : Addr} {C : String} {n sl : Nat} {v : Value} {z : Int32} {vs : List Value} (S : SC Z h a z vs) (W : Wr h h' s sl v) (q : a ≠ s) (E : Exa Z h s C) (wi : (Jvm.Cond.instantiable C n).before a0 Z = true) : SC Z h' a z vs := by
  obtain ⟨f1, f2, b, k, f3, f4⟩ := S
  exact ⟨f1.wr W, f2.other W (Or.inl q), b, k, f3.other W (Or.inl q), f4.other W (Ne.symm (Exa.neArv E f4 wi))⟩
/-- a constant that this walk has loaded -/
theorem Go.ldcA (D : Amb κ l Z y code maxL ret rm h0 n0 Q) {idx : Nat} {text : String} {L : List (String × Nat × String × Addr)} {a : Addr} (w : (Jvm.Cond.stringLink y.cls idx text).before a0 Z = true) (ha : (y.cls, idx, text, a) ∈ L) (hd : decode code pc = .ok (.ldc idx, 2)) (hp : pc + 2 = pc') (G : Go κ (some L) h ce sl pc' ls (.ref a :: st)) : Go κ (some L) h ce sl pc ls st := by
  subst hp
  obtain ⟨p, l', e, R, s, m, args, below, meth, c, Z', n0', Q'⟩ := κ
  obtain ⟨rfl, rfl, rfl, rfl, hQ, hx, hZ, hown, hby, hml, hret, hlk, hnm, hh0⟩ := D
  intro vm0 k0 T locs X hS hk V O eT N
  have hZ0 : Z'.Warmed39 vm0 := State.Warmed39.trans (t := s) hZ hS.1
  have hown0 : vm0.findClass y.cls = some m.cls := by rw [hS.1.alike.findClass]; exact hown
  have Lt : Lit (s.setVm vm0) y.cls idx a := V.2 _ ha
  have k := ldcAgain X hx hZ0 hown0 w Lt (g := mkF m pc ls st) rfl (hb hby hd)
  obtain ⟨s₂, o, g1, g2⟩ := G vm0 k0 T locs X hS hk V O eT N
  exact ⟨s₂, o, k _ g1, g2⟩
/-- a constant whose text is read -/
theorem Go.ldcT (D : Amb κ l Z y code maxL ret rm h0 n0 Q) {idx n : Nat} {text : String} {L : List (String × Nat × String × Addr)} {vs : List Value} {z : Int32} (w : (Jvm.Cond.stringLink y.cls idx text).before a0 Z = true) (wS : ∀ a ∈ Bundle.stringAtoms, a.before a0 Z = true) (hh : Jvm.Lit.constHeld Z y.cls idx) (hcw : Jvm.Lit.compactW.before a0 Z = true)
    (ht : (∀ c ∈ text.toList, c.toNat < 256) ∧ text.toList.map (fun c => Value.int (Jvm.Lit.byteI c.toNat.toUInt16)) = vs) (hz : ¬ z < 0) (hl : z.toNatClampNeg = vs.length) (hL : (∃ a, (y.cls, idx, text, a) ∈ L) ∨ text ∉ L.map fun q => q.2.2.1) (I : ∀ a, (y.cls, idx, text, a) ∈ L → SC Z h a z vs)
    (hd : decode code pc = .ok (.ldc idx, 2)) (hp : pc + 2 = pc') (hn : 4 * text.toList.length ≤ n) (hbig : n ≤ 536870912) (hce : ce + 2 = ce') (hsl : sl + (n + 4) = sl') (hc : ce' ≤ rm.cells) (hs : sl' ≤ rm.slots)
    (G : ∀ h' a L', Ext h h' → (y.cls, idx, text, a) ∈ L' → (L' = L ∨ L' = (y.cls, idx, text, a) :: L) → SC Z h' a z vs → Go κ (some L') h' ce' sl' pc' ls (.ref a :: st)) : Go κ (some L) h ce sl pc ls st := by
  subst hp hce hsl
  obtain ⟨p, l', e, R, s, m, args, below, meth, c, Z', n0', Q'⟩ := κ
  obtain ⟨rfl, rfl, rfl, rfl, hQ, hx, hZ, hown, hby, hml, hret, hlk, hnm, hh0⟩ := D
  intro vm0 k0 T locs X hS hk V O eT N
  have hZ0 : Z'.Warmed39 vm0 := State.Warmed39.trans (t := s) hZ hS.1
  have hown0 : vm0.findClass y.cls = some m.cls := by rw [hS.1.alike.findClass]; exact hown
  rcases hL with ⟨a, ha⟩ | hnot
  · have Lt : Lit (s.setVm vm0) y.cls idx a := V.2 _ ha
    have k := ldcAgain X hx hZ0 hown0 w Lt (g := mkF m pc ls st) rfl (hb hby hd)
    obtain ⟨s₂, o, g1, g2⟩ := G h a L ⟨Nat.le_refl _, fun _ _ q => q⟩ ha (Or.inl rfl) (I a ha) vm0 k0 T locs (sd_mono X (by omega) (by omega)) hS hk V O eT N
    exact ⟨s₂, o, k _ g1, g2⟩
  · have hc0 : ce ≤ R.cells := by omega
    have hs0 : sl ≤ R.slots := by omega
    have Y := reb X hc0 hs0
    have hZT : Z'.Warmed39 T.vm := State.Warmed39.trans (t := s.setVm vm0) hZ0 X.warmed.wide
    have hownT : T.vm.findClass y.cls = some m.cls := by rw [X.warmed.alike.findClass]; exact hown0
    have VT : VOk Z' T.vm (some L) := V.warm X.warmed
    obtain ⟨a, T', h', k1, b, kb, X', eT', E, hS', hk', hW', -, F1, F2, F3, F4, -, -, hI, hLit, k⟩ := ldcSVL (s := ({ ((s.setVm vm0).setVm T.vm) with heap := T.heap, slotsUsed := T.slotsUsed } : State)) (vm0 := T.vm) Y hx hZT hownT w wS eT (k0 := h.size) ((State.WarmedH.refl _).since _) (Nat.le_refl _) (Fr.nil _) (fun b cl hb => by show T.heap[b]? = _; rw [eT]; exact O.2.2 b cl hb) VT.1 hnot hh hcw ht hz hl (g := mkF m pc ls st) rfl (hb hby hd) hn hbig (by show 0 + 2 ≤ R.cells - ce; omega) (by show 0 + (n + 4) ≤ R.slots - sl; omega)
    have hT39 : T.Warmed39 T'.vm := hS'.1
    have hTB : T.Booked T'.vm T'.heap.size := State.Booked.mono (s := T) hS'.2 (by rw [eT']; exact hk')
    have hsame : T.sameButNew (T'.setVm T.vm) [] 2 (n + 4) := by
      obtain ⟨q1, q2, q3, q4, q5, q6⟩ := X'.same
      refine ⟨?_, q2, by have := q3; simp only [Nat.zero_add] at this; exact this, q4, by have := q5; simp only [Nat.zero_add] at this; exact this, q6⟩
      have r1 := congrArg (fun u : State => u.setVm T.vm) q1
      have r2 : (T'.setVm T.vm) = ({ ((s.setVm vm0).setVm T.vm).setFrames T'.frames with heap := T'.heap, slotsUsed := T'.slotsUsed } : State) := r1
      have r3 := congrArg (fun u : State => ({ (u.setVm T.vm).setFrames T'.frames with heap := T'.heap, slotsUsed := T'.slotsUsed } : State)) X.same.1
      have r4 : ({ T.setFrames T'.frames with heap := T'.heap, slotsUsed := T'.slotsUsed } : State) = ({ (((s.setVm vm0).setVm T.vm).setFrames T.frames).setFrames T'.frames with heap := T'.heap, slotsUsed := T'.slotsUsed } : State) := r3
      rw [State.setFrames_setFrames] at r4
      exact r2.trans r4.symm
    obtain ⟨X2, hS2⟩ := X.movedW X'.here X'.tail (X'.limits.trans X.limits.symm) (X'.bytes.trans X.bytes.symm) hT39 hTB hsame
    have V2 : VOk Z' T'.vm (some ((y.cls, idx, text, a) :: L)) := by
      refine ⟨hI, fun q hq => ?_⟩
      rcases List.mem_cons.mp hq with rfl | hq
      · exact hLit
      · have h1 : Lit (T.setVm T.vm) q.1 q.2.1 q.2.2.2 := VT.2 q hq
        exact Lit.stays (s := T) (vm0 := T.vm) h1 hT39
    have hle : h.size ≤ T'.heap.size := by rw [eT']; exact E.1
    obtain ⟨s₂, o, g1, g2⟩ := G h' a _ E (List.mem_cons_self ..) (Or.inr rfl) ⟨F1, F2, b, kb, F3, F4⟩ T'.vm T'.heap.size T' (locs ++ []) X2 (hS.trans hS2 (Nat.le_trans hk hle)) (by rw [eT']; exact Nat.le_refl _) V2 (O.ext E) eT' (by rw [List.append_nil]; exact N)
    exact ⟨s₂, o, k _ g1, g2⟩
end Rules
end Jvm.OwnKit

namespace Jvm.Pilot.@@N@@
open Jvm Jvm.ClassFile Sem Op Lib Jvm.Free Jvm.Stand Jvm.LawKit Jvm.RoadKit Bundle Jvm.OwnKit Jvm.Pilot.@@N@@.Jvm.D

/-! numbers -/
theorem own_ti {i : Nat} (h : i < 2147483648) : (Int32.ofNat i).toInt = i := Int32.toInt_ofNat_small (by omega)
theorem own_tn {i : Nat} (h : i < 2147483648) : (Int32.ofNat i).toNatClampNeg = i := by simp only [Int32.toNatClampNeg, own_ti h]; rfl
theorem own_nn {i : Nat} (h : i < 2147483648) : ¬ Int32.ofNat i < 0 := by rw [Int32.lt_iff_toInt_lt, own_ti h]; show ¬ (i : Int) < 0; omega
theorem own_lt {i j : Nat} (hi : i < 2147483648) (hj : j < 2147483648) : Int32.ofNat i < Int32.ofNat j ↔ i < j := by rw [Int32.lt_iff_toInt_lt, own_ti hi, own_ti hj]; omega
theorem own_inj {i j : Nat} (hi : i < 2147483648) (hj : j < 2147483648) (h : Int32.ofNat i = Int32.ofNat j) : i = j := by
  have := congrArg Int32.toInt h; rw [own_ti hi, own_ti hj] at this; omega
theorem own_succ (i : Nat) : Int32.ofNat i + 1 = Int32.ofNat (i + 1) := Int32.ofNat_succ i
theorem own_ne {a b : Nat} (h : a < b ∨ b < a) : a ≠ b := fun e => by subst e; omega
theorem own_ltn {a b : Nat} (h : a < b) : a < b := h
/-! chars and bytes -/
def bv (cs : List Int32) : List Value := cs.map fun c => Value.int c.toInt8.toInt32
def Lat (cs : List Int32) : Prop := (∀ c ∈ cs, ¬ c < 0 ∧ c < 256) ∧ cs.length ≤ 64
theorem bv_len (cs : List Int32) : (bv cs).length = cs.length := by simp [bv]
theorem own_bb (x : Int32) : nar .byte (x.toInt8.toInt32) = x.toInt8.toInt32 := by
  show x.toInt8.toInt32.toInt8.toInt32 = x.toInt8.toInt32
  rw [Int8.toInt8_toInt32]
theorem byte_inj {c d : Int32} (hc : ¬ c < 0 ∧ c < 256) (hd : ¬ d < 0 ∧ d < 256) (h : c.toInt8.toInt32 = d.toInt8.toInt32) : c = d := by
  have a := c_i2b c
  have b := c_i2b d
  rw [h] at a
  simp only [Int32.lt_iff_toInt_lt, show (0 : Int32).toInt = 0 from rfl, show (256 : Int32).toInt = 256 from rfl] at hc hd
  apply Int32.toInt_inj.mp
  omega
theorem bv_inj {cs ds : List Int32} (hc : ∀ c ∈ cs, ¬ c < 0 ∧ c < 256) (hd : ∀ c ∈ ds, ¬ c < 0 ∧ c < 256) (h : bv cs = bv ds) : cs = ds := by
  induction cs generalizing ds with
  | nil =>
    cases ds with
    | nil => rfl
    | cons d ds => simp [bv] at h
  | cons c cs ih =>
    cases ds with
    | nil => simp [bv] at h
    | cons d ds =>
      simp only [bv, List.map_cons, List.cons.injEq, Value.int.injEq] at h
      rw [byte_inj (hc c (by simp)) (hd d (by simp)) h.1, ih (fun x hx => hc x (by simp [hx])) (fun x hx => hd x (by simp [hx])) h.2]
theorem cs_at {cs : List Int32} {i : Nat} (h : i < cs.length) (d : Value) : (cs.map Value.int).getD i d = .int cs[i] := by simp [h]
theorem bv_at {cs : List Int32} {i : Nat} (h : i < cs.length) (d : Value) : (bv cs).getD i d = .int (cs[i].toInt8.toInt32) := by simp [bv, h]
theorem own_bset {cs : List Int32} {i : Nat} (h : i < cs.length) : ((bv cs).take i ++ List.replicate (cs.length - i) (Value.int 0)).set i (.int (cs[i].toInt8.toInt32)) = (bv cs).take (i + 1) ++ List.replicate (cs.length - (i + 1)) (Value.int 0) := by
  have hl : ((bv cs).take i).length = i := by rw [List.length_take, bv_len]; omega
  rw [show cs.length - i = (cs.length - (i + 1)) + 1 by omega, List.replicate_succ, List.set_append_right _ _ (by omega), hl, Nat.sub_self, List.set_cons_zero, List.take_add_one]
  have : (bv cs)[i]? = some (Value.int (cs[i].toInt8.toInt32)) := by simp [bv, h]
  rw [this]
  simp
theorem lat_le {c : Int32} (h : ¬ c < 0 ∧ c < 256) : ¬ (255 : Int32) < c := by
  simp only [Int32.lt_iff_toInt_lt, show (0 : Int32).toInt = 0 from rfl, show (256 : Int32).toInt = 256 from rfl, show (255 : Int32).toInt = 255 from rfl] at h ⊢
  omega
/-- the String a spells cs -/
def Str (Z : State) (h : Heap) (a : Addr) (cs : List Int32) : Prop := SC Z h a (Int32.ofNat cs.length) (bv cs) ∧ Lat cs
theorem Str.ext {Z : State} {h h' : Heap} {a : Addr} {cs : List Int32} (S : Str Z h a cs) (E : Ext h h') : Str Z h' a cs := ⟨S.1.ext E, S.2⟩
theorem Arv.uniq {Z : State} {h : Heap} {a : Addr} {k k' : ClassId} {ty : FieldType} {n n' : Int32} {vs ws : List Value} {d : Value} (A : Arv Z h a k ty n vs d) (B : Arv Z h a k' ty n' ws d) (hv : vs.length = n.toNatClampNeg) (hw : ws.length = n'.toNatClampNeg) : vs = ws := by
  obtain ⟨c, A1, -, A3, -, A5, -⟩ := A
  obtain ⟨c', B1, -, B3, -, B5, -⟩ := B
  cases A1.1.symm.trans B1.1
  apply List.ext_getElem (by omega)
  intro i h1 h2
  have q := (A5 i (by omega)).symm.trans (B5 i (by omega))
  simpa [h1, h2] using q
theorem Str.uniq {Z : State} {h : Heap} {a : Addr} {cs ds : List Int32} (S : Str Z h a cs) (S' : Str Z h a ds) : cs = ds := by
  obtain ⟨⟨-, -, b, k, F, A⟩, l1, l2⟩ := S
  obtain ⟨⟨-, -, b', k', F', A'⟩, l1', l2'⟩ := S'
  have e : b = b' := Classical.byContradiction fun q => Fld.ne F F' (fun z => q (by injection z)) rfl
  subst e
  exact bv_inj l1 l1' (Arv.uniq A A' (by rw [bv_len, own_tn (by omega)]) (by rw [bv_len, own_tn (by omega)]))
theorem Str.keep {Z : State} {a0 : Array Value} {h h' : Heap} {a s : Addr} {C : String} {n : Nat} {cs : List Int32} (S : Str Z h a cs) (K : Keep h h' [s]) (q : a ≠ s) (E : Exa Z h s C) (wi : (Jvm.Cond.instantiable C n).before a0 Z = true) : Str Z h' a cs := by
  obtain ⟨⟨f1, f2, b, k, f3, f4⟩, l⟩ := S
  exact ⟨⟨f1.keep K, f2.keep K (nin1 q), b, k, f3.keep K (nin1 q), f4.keep K (nin1 (Ne.symm (Exa.neArv E f4 wi)))⟩, l⟩
/-! the constants that are loaded -/
def tb (t : String) : List Value := t.toList.map fun c => Value.int (Jvm.Lit.byteI c.toNat.toUInt16)
def CsOk (CS : List (String × Nat × String)) (Z : State) (h : Heap) (L : List (String × Nat × String × Addr)) : Prop := ∀ q ∈ L, (q.1, q.2.1, q.2.2.1) ∈ CS ∧ SC Z h q.2.2.2 (Int32.ofNat (tb q.2.2.1).length) (tb q.2.2.1)
theorem CsOk.nil {CS : List (String × Nat × String)} {Z : State} {h : Heap} : CsOk CS Z h [] := fun q hq => nomatch hq
theorem CsOk.ext {CS : List (String × Nat × String)} {Z : State} {h h' : Heap} {L : List (String × Nat × String × Addr)} (C : CsOk CS Z h L) (E : Ext h h') : CsOk CS Z h' L := fun q hq => ⟨(C q hq).1, (C q hq).2.ext E⟩
theorem CsOk.wr {CS : List (String × Nat × String)} {Z : State} {a0 : Array Value} {h h' : Heap} {L : List (String × Nat × String × Addr)} {s : Addr} {C : String} {n sl : Nat} {v : Value} (K : CsOk CS Z h L) (W : Wr h h' s sl v) (hq : ∀ q ∈ L, q.2.2.2 ≠ s) (E : Exa Z h s C) (wi : (Jvm.Cond.instantiable C n).before a0 Z = true) : CsOk CS Z h' L := fun q hm => ⟨(K q hm).1, (K q hm).2.wr W (hq q hm) E wi⟩
theorem CsOk.has {CS : List (String × Nat × String)} {Z : State} {h : Heap} {L : List (String × Nat × String × Addr)} (K : CsOk CS Z h L) {own text : String} {idx : Nat} (hu : ∀ c ∈ CS, c.2.2 = text → c = (own, idx, text)) : (∃ a, (own, idx, text, a) ∈ L) ∨ text ∉ L.map fun q => q.2.2.1 := by
  by_cases q : text ∈ L.map fun q => q.2.2.1
  · obtain ⟨x, hx, e⟩ := List.mem_map.mp q
    have := hu _ (K x hx).1 e
    obtain ⟨x1, x2, x3, x4⟩ := x
    simp only [Prod.mk.injEq] at this
    obtain ⟨rfl, rfl, rfl⟩ := this
    exact Or.inl ⟨x4, hx⟩
  · exact Or.inr q
theorem CsOk.step {CS : List (String × Nat × String)} {Z : State} {h h' : Heap} {L L' : List (String × Nat × String × Addr)} {own text : String} {idx : Nat} {a : Addr} (K : CsOk CS Z h L) (E : Ext h h') (hm : (own, idx, text) ∈ CS) (hL : L' = L ∨ L' = (own, idx, text, a) :: L) (S : SC Z h' a (Int32.ofNat (tb text).length) (tb text)) : CsOk CS Z h' L' := by
  rcases hL with rfl | rfl
  · exact K.ext E
  · intro q hq
    rcases List.mem_cons.mp hq with rfl | hq
    · exact ⟨hm, S⟩
    · exact (K.ext E) q hq

abbrev CS : List (String × Nat × String) := [("x", 7, "ns")]
theorem wS {Z : State} {a0 : Array Value} (hw : ∀ d ∈ tables_1, d.before a0 Z = true) : ∀ a ∈ Bundle.stringAtoms, a.before a0 Z = true := fun a ha => hw a ((by decide +kernel : ∀ a ∈ Bundle.stringAtoms, a ∈ tables_1) a ha)
def SH (Z : State) (h : Heap) (s : Addr) (cs : List Int32) (x z : Int32) : Prop := Fld Z h s "java/lang/String" "hash" "I" (.int x) ∧ Fld Z h s "java/lang/String" "hashIsZero" "Z" (.int z) ∧ (2 ≤ cs.length → ∃ b, Fld Z h s "java/lang/String" "value" "[B" (.ref b) ∧ Exa Z h b "[B")
theorem SH.ext {Z : State} {h h' : Heap} {s : Addr} {cs : List Int32} {x z : Int32} (S : SH Z h s cs x z) (E : Ext h h') : SH Z h' s cs x z := ⟨S.1.ext E, S.2.1.ext E, fun q => by obtain ⟨b, q1, q2⟩ := S.2.2 q; exact ⟨b, q1.ext E, q2.ext E⟩⟩
theorem SH.keep {Z : State} {h h' : Heap} {s t : Addr} {cs : List Int32} {x z : Int32} (S : SH Z h s cs x z) (K : Keep h h' [t]) (q : s ≠ t) : SH Z h' s cs x z := ⟨S.1.keep K (nin1 q), S.2.1.keep K (nin1 q), fun u => by obtain ⟨b, q1, q2⟩ := S.2.2 u; exact ⟨b, q1.keep K (nin1 q), q2.keep K⟩⟩

abbrev y7 : MethodName := ⟨"java/lang/StringUTF16", "compress", "([CI[BII)I"⟩
theorem d7_0 : decode jdk_52_method_21_code 0 = .ok (.iconst 0, 1) := by decide +kernel
theorem d7_1 : decode jdk_52_method_21_code 1 = .ok (.istore 5, 2) := by decide +kernel
theorem d7_3 : decode jdk_52_method_21_code 3 = .ok (.iload 5, 2) := by decide +kernel
theorem d7_5 : decode jdk_52_method_21_code 5 = .ok (.iload 4, 2) := by decide +kernel
theorem d7_7 : decode jdk_52_method_21_code 7 = .ok (.if_icmp .ge 37, 3) := by decide +kernel
theorem d7_10 : decode jdk_52_method_21_code 10 = .ok (.aload_n 0, 1) := by decide +kernel
theorem d7_11 : decode jdk_52_method_21_code 11 = .ok (.iload_n 1, 1) := by decide +kernel
theorem d7_12 : decode jdk_52_method_21_code 12 = .ok (.caload, 1) := by decide +kernel
theorem d7_13 : decode jdk_52_method_21_code 13 = .ok (.istore 6, 2) := by decide +kernel
theorem d7_15 : decode jdk_52_method_21_code 15 = .ok (.iload 6, 2) := by decide +kernel
theorem d7_17 : decode jdk_52_method_21_code 17 = .ok (.sipush 255, 3) := by decide +kernel
theorem d7_20 : decode jdk_52_method_21_code 20 = .ok (.if_icmp .le 6, 3) := by decide +kernel
theorem d7_23 : decode jdk_52_method_21_code 23 = .ok (.iload 5, 2) := by decide +kernel
theorem d7_25 : decode jdk_52_method_21_code 25 = .ok (.ireturn, 1) := by decide +kernel
theorem d7_26 : decode jdk_52_method_21_code 26 = .ok (.aload_n 2, 1) := by decide +kernel
theorem d7_27 : decode jdk_52_method_21_code 27 = .ok (.iload_n 3, 1) := by decide +kernel
theorem d7_28 : decode jdk_52_method_21_code 28 = .ok (.iload 6, 2) := by decide +kernel
theorem d7_30 : decode jdk_52_method_21_code 30 = .ok (.i2b, 1) := by decide +kernel
theorem d7_31 : decode jdk_52_method_21_code 31 = .ok (.bastore, 1) := by decide +kernel
theorem d7_32 : decode jdk_52_method_21_code 32 = .ok (.iinc 1 1, 3) := by decide +kernel
theorem d7_35 : decode jdk_52_method_21_code 35 = .ok (.iinc 3 1, 3) := by decide +kernel
theorem d7_38 : decode jdk_52_method_21_code 38 = .ok (.iinc 5 1, 3) := by decide +kernel
theorem d7_41 : decode jdk_52_method_21_code 41 = .ok (.goto (-38), 3) := by decide +kernel
theorem d7_44 : decode jdk_52_method_21_code 44 = .ok (.iload 4, 2) := by decide +kernel
theorem d7_46 : decode jdk_52_method_21_code 46 = .ok (.ireturn, 1) := by decide +kernel
theorem pd7 : parseMethodDescriptor "([CI[BII)I" = some ⟨[(.array .char), .int, (.array .byte), .int, .int], (some .int)⟩ := by decide +kernel
theorem pn7 : plainFor y7 = true := by first | exact plainFor_of_name (by first | (simp [plainName, overriddenIn]; done) | decide +kernel) | decide +kernel | rfl
set_option maxRecDepth 65536 in
set_option maxHeartbeats 40000000 in
theorem con_cmp2 (l : Launch) (Z : State) (a0 : Array Value) (hw : ∀ d ∈ tables_1, d.before a0 Z = true) (h0 : Heap) (n0 : Nat) (σ : Sg) (a b : Addr) (ka kb : ClassId) (cs : List Int32) (A : Arv Z h0 a ka .char (Int32.ofNat cs.length) (cs.map Value.int) (.int 0)) (B0 : Arv Z h0 b kb .byte (Int32.ofNat cs.length) (List.replicate cs.length (Value.int 0)) (.int 0)) (hp : Lat cs) (nab : a ≠ b) (gb : n0 ≤ b) :
    Con l Z y7 jdk_52_method_21_code 7 ((some .int)) ({ frames := 0, cells := 0, slots := 0, locals := 0 } : Room) [] #[(.ref a), (.int (0 : Int32)), (.ref b), (.int (0 : Int32)), (.int (Int32.ofNat cs.length))] σ h0 n0 (fun v h τ => σ = τ ∧ v = some (.int (Int32.ofNat cs.length)) ∧ Keep h0 h [b] ∧ Arv Z h b kb .byte (Int32.ofNat cs.length) (bv cs) (.int 0)) := by
  refine Con.of_go pn7 (ls := #[.val (.ref a), .val (.int (0 : Int32)), .val (.ref b), .val (.int (0 : Int32)), .val (.int (Int32.ofNat cs.length)), .unset, .unset]) (fun m => by first | (simp [entryFrame, mkF, argsToLocals, Value.category]; done) | rfl) ?_
  intro κ D
  have hl := hp.2
  have loop : ∀ (N i : Nat) (h : Heap) (s6 : Slot), cs.length - i = N → i ≤ cs.length → Keep h0 h [b] → Arv Z h b kb .byte (Int32.ofNat cs.length) ((bv cs).take i ++ List.replicate (cs.length - i) (Value.int 0)) (.int 0) → (s6 = .unset ∨ ∃ w, s6 = .val w ∧ w.category = 1) → Go κ σ h 0 0 3 #[.val (.ref a), .val (.int (Int32.ofNat i)), .val (.ref b), .val (.int (Int32.ofNat i)), .val (.int (Int32.ofNat cs.length)), .val (.int (Int32.ofNat i)), s6] [] := by
    intro N
    induction N using Nat.strongRecOn with
    | _ N ih =>
      intro i h s6 hN hi0 K B hs6
      refine Go.iload D (pc' := 5) d7_3 rfl rfl ?_
      refine Go.iload D (pc' := 7) d7_5 rfl rfl ?_
      refine Go.icmp D (pc' := 44) (pc2 := 10) d7_7 (by decide) (by decide) rfl ?_ ?_
      · intro (hc7 : ¬ (Int32.ofNat i) < (Int32.ofNat cs.length))
        refine Go.iload D (pc' := 46) d7_44 rfl rfl ?_
        refine Go.iret D rfl d7_46 (by decide) (by decide) ?_
        have hi : i = cs.length := by
          have : ¬ i < cs.length := fun q => hc7 ((own_lt (by omega) (by omega)).mpr q)
          omega
        subst hi
        refine ⟨rfl, rfl, K, ?_⟩
        rw [Nat.sub_self, List.replicate_zero, List.append_nil, List.take_of_length_le (by rw [bv_len]; exact Nat.le_refl _)] at B
        exact B
      · intro (hc7 : (Int32.ofNat i) < (Int32.ofNat cs.length))
        refine Go.aloadN D (pc' := 11) d7_10 rfl rfl rfl ?_
        refine Go.iloadN D (pc' := 12) d7_11 rfl rfl ?_
        have hi : i < cs.length := (own_lt (by omega) (by omega)).mp hc7
        refine Go.caload D (pc' := 13) d7_12 rfl (A.keep K (nin1 nab)) (own_nn (by omega)) ((own_lt (by omega) (by omega)).mpr hi) (v := .int cs[i]) (by rw [own_tn (by omega)]; exact cs_at hi _) ?_
        refine Go.istoreU D (pc' := 15) d7_13 rfl rfl hs6 (ls' := #[.val (.ref a), .val (.int (Int32.ofNat i)), .val (.ref b), .val (.int (Int32.ofNat i)), .val (.int (Int32.ofNat cs.length)), .val (.int (Int32.ofNat i)), .val (.int cs[i])]) rfl ?_
        refine Go.iload D (pc' := 17) d7_15 rfl rfl ?_
        refine Go.sipush D (pc' := 20) d7_17 rfl (v := (255 : Int32)) rfl ?_
        refine Go.icmp D (pc' := 26) (pc2 := 23) d7_20 (by decide) (by decide) rfl ?_ ?_
        · intro (hc20 : ¬ (255 : Int32) < cs[i])
          refine Go.aloadN D (pc' := 27) d7_26 rfl rfl rfl ?_
          refine Go.iloadN D (pc' := 28) d7_27 rfl rfl ?_
          refine Go.iload D (pc' := 30) d7_28 rfl rfl ?_
          refine Go.i2b D (pc' := 31) d7_30 rfl  ?_
          refine Go.bastore D (pc' := 32) (i := i) d7_31 rfl B (own_nn (by omega)) ((own_lt (by omega) (by omega)).mpr hi) (own_tn (by omega)) (by simp [bv]; omega) gb (own_bb _) ?_
          intro h2 K2 B2
          refine Go.iinc D (pc' := 35) d7_32 rfl rfl (d := (1 : Int32)) rfl (ls' := #[.val (.ref a), .val (.int ((Int32.ofNat i) + (1 : Int32))), .val (.ref b), .val (.int (Int32.ofNat i)), .val (.int (Int32.ofNat cs.length)), .val (.int (Int32.ofNat i)), .val (.int cs[i])]) rfl ?_
          refine Go.iinc D (pc' := 38) d7_35 rfl rfl (d := (1 : Int32)) rfl (ls' := #[.val (.ref a), .val (.int ((Int32.ofNat i) + (1 : Int32))), .val (.ref b), .val (.int ((Int32.ofNat i) + (1 : Int32))), .val (.int (Int32.ofNat cs.length)), .val (.int (Int32.ofNat i)), .val (.int cs[i])]) rfl ?_
          refine Go.iinc D (pc' := 41) d7_38 rfl rfl (d := (1 : Int32)) rfl (ls' := #[.val (.ref a), .val (.int ((Int32.ofNat i) + (1 : Int32))), .val (.ref b), .val (.int ((Int32.ofNat i) + (1 : Int32))), .val (.int (Int32.ofNat cs.length)), .val (.int ((Int32.ofNat i) + (1 : Int32))), .val (.int cs[i])]) rfl ?_
          refine Go.goto D (pc' := 3) d7_41 (by decide) (by decide) ?_
          rw [own_succ]
          rw [own_bset hi] at B2
          exact ih (cs.length - (i + 1)) (by omega) (i + 1) h2 _ rfl (by omega) (K.trans K2 (fun x hx => Or.inl hx)) B2 (Or.inr ⟨_, rfl, rfl⟩)
        · intro (hc20 : (255 : Int32) < cs[i])
          exact absurd hc20 (lat_le (hp.1 _ (List.getElem_mem hi)))
  refine Go.iconst D (pc' := 1) d7_0 rfl (v := (0 : Int32)) rfl ?_
  refine Go.istore D (pc' := 3) d7_1 rfl (ls' := #[.val (.ref a), .val (.int (0 : Int32)), .val (.ref b), .val (.int (0 : Int32)), .val (.int (Int32.ofNat cs.length)), .val (.int (0 : Int32)), .unset]) rfl ?_
  rw [show (0 : Int32) = Int32.ofNat 0 from rfl]
  exact loop (cs.length - 0) 0 h0 _ rfl (by omega) (Keep.refl _ _) (by simpa using B0) (Or.inl rfl)
abbrev y6 : MethodName := ⟨"java/lang/StringUTF16", "compress", "([CII)[B"⟩
theorem d6_0 : decode jdk_52_method_16_code 0 = .ok (.iload_n 2, 1) := by decide +kernel
theorem d6_1 : decode jdk_52_method_16_code 1 = .ok (.newarray .byte, 2) := by decide +kernel
theorem d6_3 : decode jdk_52_method_16_code 3 = .ok (.astore_n 3, 1) := by decide +kernel
theorem d6_4 : decode jdk_52_method_16_code 4 = .ok (.aload_n 0, 1) := by decide +kernel
theorem d6_5 : decode jdk_52_method_16_code 5 = .ok (.iload_n 1, 1) := by decide +kernel
theorem d6_6 : decode jdk_52_method_16_code 6 = .ok (.aload_n 3, 1) := by decide +kernel
theorem d6_7 : decode jdk_52_method_16_code 7 = .ok (.iconst 0, 1) := by decide +kernel
theorem d6_8 : decode jdk_52_method_16_code 8 = .ok (.iload_n 2, 1) := by decide +kernel
theorem d6_9 : decode jdk_52_method_16_code 9 = .ok (.invokestatic 115, 3) := by decide +kernel
theorem d6_12 : decode jdk_52_method_16_code 12 = .ok (.istore 4, 2) := by decide +kernel
theorem d6_14 : decode jdk_52_method_16_code 14 = .ok (.iload 4, 2) := by decide +kernel
theorem d6_16 : decode jdk_52_method_16_code 16 = .ok (.iload_n 2, 1) := by decide +kernel
theorem d6_17 : decode jdk_52_method_16_code 17 = .ok (.if_icmp .eq 40, 3) := by decide +kernel
theorem d6_57 : decode jdk_52_method_16_code 57 = .ok (.aload_n 3, 1) := by decide +kernel
theorem d6_58 : decode jdk_52_method_16_code 58 = .ok (.areturn, 1) := by decide +kernel
theorem pd6 : parseMethodDescriptor "([CII)[B" = some ⟨[(.array .char), .int, .int], (some (.array .byte))⟩ := by decide +kernel
theorem pn6 : plainFor y6 = true := by first | exact plainFor_of_name (by first | (simp [plainName, overriddenIn]; done) | decide +kernel) | decide +kernel | rfl
set_option maxRecDepth 65536 in
set_option maxHeartbeats 40000000 in
theorem con_cmp1 (l : Launch) (Z : State) (a0 : Array Value) (hw : ∀ d ∈ tables_1, d.before a0 Z = true) (h0 : Heap) (n0 : Nat) (Z0 : n0 ≤ h0.size) (σ : Sg) (a : Addr) (ka : ClassId) (cs : List Int32) (A : Arv Z h0 a ka .char (Int32.ofNat cs.length) (cs.map Value.int) (.int 0)) (hp : Lat cs) :
    Con l Z y6 jdk_52_method_16_code 6 ((some (.array .byte))) ({ frames := 1, cells := 1, slots := 64, locals := 18 } : Room) [] #[(.ref a), (.int (0 : Int32)), (.int (Int32.ofNat cs.length))] σ h0 n0 (fun v h τ => σ = τ ∧ ∃ b kb, v = some (.ref b) ∧ h0.size ≤ b ∧ Ext h0 h ∧ Arv Z h b kb .byte (Int32.ofNat cs.length) (bv cs) (.int 0) ∧ Exa Z h b "[B") := by
  refine Con.of_go pn6 (ls := #[.val (.ref a), .val (.int (0 : Int32)), .val (.int (Int32.ofNat cs.length)), .unset, .unset, .unset]) (fun m => by first | (simp [entryFrame, mkF, argsToLocals, Value.category]; done) | rfl) ?_
  intro κ D
  have hl := hp.2
  have qa := own_ltn A.lt
  refine Go.iloadN D (pc' := 1) d6_0 rfl rfl ?_
  refine Go.newPE D (pc' := 3) (aty := .byte) (cap := 64) (ce' := 1) (sl' := 64) (hw _ (List.mem_of_getElem? (i := 31) rfl)) d6_1 rfl (own_nn (by omega)) (by rw [own_tn (by omega)]; omega) (by decide) (ad := "[B") (by decide) rfl rfl (by decide) (by decide) ?_
  intro h1 b kb gb E1 B1 X1
  refine Go.astoreN D (pc' := 4) d6_3 rfl rfl (ls' := #[.val (.ref a), .val (.int (0 : Int32)), .val (.int (Int32.ofNat cs.length)), .val (.ref b), .unset, .unset]) rfl ?_
  refine Go.aloadN D (pc' := 5) d6_4 rfl rfl rfl ?_
  refine Go.iloadN D (pc' := 6) d6_5 rfl rfl ?_
  refine Go.aloadN D (pc' := 7) d6_6 rfl rfl rfl ?_
  refine Go.iconst D (pc' := 8) d6_7 rfl (v := (0 : Int32)) rfl ?_
  refine Go.iloadN D (pc' := 9) d6_8 rfl rfl ?_
  refine Go.callS D (argsL := [(.ref a), (.int (0 : Int32)), (.ref b), (.int (0 : Int32)), (.int (Int32.ofNat cs.length))]) (rest := []) (pc' := 12) (ce' := 1) (sl' := 64) (con_cmp2 l Z a0 hw h1 n0 σ a b ka kb cs (A.ext E1) (B1.pad (vs' := List.replicate cs.length (.int 0)) (fun i => pad_rep [] (.int 0) cs.length i)) hp (own_ne (by omega)) (by omega)) (hw _ (List.mem_of_getElem? (i := 32) rfl)) (hw _ (List.mem_of_getElem? (i := 33) rfl)) (hw _ (List.mem_of_getElem? (i := 29) rfl)) (hw _ (List.mem_of_getElem? (i := 34) rfl)) (by decide) d6_9 rfl pd7 rfl rfl rfl (by decide) (W := 0) rfl (by decide) (by decide) (by decide) (by decide) (by decide) ?_
  intro v9 h2 σ9 q9
  obtain ⟨rfl, rfl, K2, B2⟩ := q9
  show Go κ σ h2 1 64 12 #[.val (.ref a), .val (.int (0 : Int32)), .val (.int (Int32.ofNat cs.length)), .val (.ref b), .unset, .unset] [(.int (Int32.ofNat cs.length))]
  refine Go.istore D (pc' := 14) d6_12 rfl (ls' := #[.val (.ref a), .val (.int (0 : Int32)), .val (.int (Int32.ofNat cs.length)), .val (.ref b), .val (.int (Int32.ofNat cs.length)), .unset]) rfl ?_
  refine Go.iload D (pc' := 16) d6_14 rfl rfl ?_
  refine Go.iloadN D (pc' := 17) d6_16 rfl rfl ?_
  refine Go.icmp D (pc' := 57) (pc2 := 20) d6_17 (by decide) (by decide) rfl ?_ ?_
  · intro (hc17 : (Int32.ofNat cs.length) = (Int32.ofNat cs.length))
    refine Go.aloadN D (pc' := 58) d6_57 rfl rfl rfl ?_
    refine Go.aret D rfl rfl rfl d6_58 (by decide) (by decide) ?_
    exact ⟨rfl, b, kb, rfl, by omega, E1.keepN K2 (by omega), B2, X1.keep K2⟩
  · intro (hc17 : ¬ (Int32.ofNat cs.length) = (Int32.ofNat cs.length))
    exact absurd rfl hc17
abbrev y8 : MethodName := ⟨"java/lang/StringUTF16", "coderFromArrayLen", "([BI)B"⟩
theorem d8_0 : decode jdk_52_method_15_code 0 = .ok (.iload_n 1, 1) := by decide +kernel
theorem d8_1 : decode jdk_52_method_15_code 1 = .ok (.aload_n 0, 1) := by decide +kernel
theorem d8_2 : decode jdk_52_method_15_code 2 = .ok (.arraylength, 1) := by decide +kernel
theorem d8_3 : decode jdk_52_method_15_code 3 = .ok (.isub, 1) := by decide +kernel
theorem d8_4 : decode jdk_52_method_15_code 4 = .ok (.bipush 31, 2) := by decide +kernel
theorem d8_6 : decode jdk_52_method_15_code 6 = .ok (.iushr, 1) := by decide +kernel
theorem d8_7 : decode jdk_52_method_15_code 7 = .ok (.i2b, 1) := by decide +kernel
theorem d8_8 : decode jdk_52_method_15_code 8 = .ok (.ireturn, 1) := by decide +kernel
theorem pd8 : parseMethodDescriptor "([BI)B" = some ⟨[(.array .byte), .int], (some .byte)⟩ := by decide +kernel
theorem pn8 : plainFor y8 = true := by first | exact plainFor_of_name (by first | (simp [plainName, overriddenIn]; done) | decide +kernel) | decide +kernel | rfl
set_option maxRecDepth 65536 in
set_option maxHeartbeats 40000000 in
theorem con_coder (l : Launch) (Z : State) (a0 : Array Value) (hw : ∀ d ∈ tables_1, d.before a0 Z = true) (h0 : Heap) (n0 : Nat) (σ : Sg) (b : Addr) (kb : ClassId) (n : Int32) (vs : List Value) (B : Arv Z h0 b kb .byte n vs (.int 0)) :
    Con l Z y8 jdk_52_method_15_code 2 ((some .byte)) ({ frames := 0, cells := 0, slots := 0, locals := 0 } : Room) [] #[(.ref b), (.int n)] σ h0 n0 (fun v h τ => h0 = h ∧ σ = τ ∧ v = some (.int 0)) := by
  refine Con.of_go pn8 (ls := #[.val (.ref b), .val (.int n)]) (fun m => by first | (simp [entryFrame, mkF, argsToLocals, Value.category]; done) | rfl) ?_
  intro κ D
  refine Go.iloadN D (pc' := 1) d8_0 rfl rfl ?_
  refine Go.aloadN D (pc' := 2) d8_1 rfl rfl rfl ?_
  refine Go.alen D (pc' := 3) d8_2 rfl B ?_
  refine Go.isub D (pc' := 4) d8_3 rfl  ?_
  refine Go.bipush D (pc' := 6) d8_4 rfl (v := (31 : Int32)) rfl ?_
  refine Go.iushr D (pc' := 7) d8_6 rfl  ?_
  refine Go.i2b D (pc' := 8) d8_7 rfl  ?_
  have e0 : ((ushr (n - n) (31 : Int32)).toInt8).toInt32 = (0 : Int32) := by rw [Int32.sub_self]; decide
  rw [e0]
  refine Go.bret D rfl rfl d8_8 (by decide) (by decide) ?_
  exact ⟨rfl, rfl, rfl⟩
abbrev y4 : MethodName := ⟨"java/lang/String", "<init>", "([CIILjava/lang/Void;)V"⟩
theorem d4_0 : decode jdk_42_method_149_code 0 = .ok (.aload_n 0, 1) := by decide +kernel
theorem d4_1 : decode jdk_42_method_149_code 1 = .ok (.invokespecial 1, 3) := by decide +kernel
theorem d4_4 : decode jdk_42_method_149_code 4 = .ok (.iload_n 3, 1) := by decide +kernel
theorem d4_5 : decode jdk_42_method_149_code 5 = .ok (.ifCond .ne 22, 3) := by decide +kernel
theorem d4_27 : decode jdk_42_method_149_code 27 = .ok (.getstatic 38, 3) := by decide +kernel
theorem d4_30 : decode jdk_42_method_149_code 30 = .ok (.ifCond .eq 28, 3) := by decide +kernel
theorem d4_33 : decode jdk_42_method_149_code 33 = .ok (.aload_n 1, 1) := by decide +kernel
theorem d4_34 : decode jdk_42_method_149_code 34 = .ok (.iload_n 2, 1) := by decide +kernel
theorem d4_35 : decode jdk_42_method_149_code 35 = .ok (.iload_n 3, 1) := by decide +kernel
theorem d4_36 : decode jdk_42_method_149_code 36 = .ok (.invokestatic 177, 3) := by decide +kernel
theorem d4_39 : decode jdk_42_method_149_code 39 = .ok (.astore 5, 2) := by decide +kernel
theorem d4_41 : decode jdk_42_method_149_code 41 = .ok (.aload_n 0, 1) := by decide +kernel
theorem d4_42 : decode jdk_42_method_149_code 42 = .ok (.aload 5, 2) := by decide +kernel
theorem d4_44 : decode jdk_42_method_149_code 44 = .ok (.iload_n 3, 1) := by decide +kernel
theorem d4_45 : decode jdk_42_method_149_code 45 = .ok (.invokestatic 47, 3) := by decide +kernel
theorem d4_48 : decode jdk_42_method_149_code 48 = .ok (.putfield 15, 3) := by decide +kernel
theorem d4_51 : decode jdk_42_method_149_code 51 = .ok (.aload_n 0, 1) := by decide +kernel
theorem d4_52 : decode jdk_42_method_149_code 52 = .ok (.aload 5, 2) := by decide +kernel
theorem d4_54 : decode jdk_42_method_149_code 54 = .ok (.putfield 9, 3) := by decide +kernel
theorem d4_57 : decode jdk_42_method_149_code 57 = .ok (.return_, 1) := by decide +kernel
theorem pd4 : parseMethodDescriptor "([CIILjava/lang/Void;)V" = some ⟨[(.array .char), .int, .int, (.object "java/lang/Void")], none⟩ := by decide +kernel
theorem pn4 : plainFor y4 = true := by first | exact plainFor_of_name (by first | (simp [plainName, overriddenIn]; done) | decide +kernel) | decide +kernel | rfl
set_option maxRecDepth 65536 in
set_option maxHeartbeats 40000000 in
theorem con_strN4 (l : Launch) (Z : State) (a0 : Array Value) (hw : ∀ d ∈ tables_1, d.before a0 Z = true) (h0 : Heap) (n0 : Nat) (Z0 : n0 ≤ h0.size) (σ : Sg) (s : Addr) (a : Addr) (ka : ClassId) (cs : List Int32) (A : Arv Z h0 a ka .char (Int32.ofNat cs.length) (cs.map Value.int) (.int 0)) (hp : Lat cs) (hne : cs ≠ []) (cz : Int32) (hcz : ¬ cz = 0) (O2 : Sta Z Z.heap "java/lang/String" "COMPACT_STRINGS" "Z" (.int cz)) (g0 : n0 ≤ s) (E : Exa Z h0 s "java/lang/String") (Fv : Fld Z h0 s "java/lang/String" "value" "[B" .null) (Fc : Fld Z h0 s "java/lang/String" "coder" "B" (.int 0)) (Fh : Fld Z h0 s "java/lang/String" "hash" "I" (.int 0)) (Fz : Fld Z h0 s "java/lang/String" "hashIsZero" "Z" (.int 0)) :
    Con l Z y4 jdk_42_method_149_code 6 none ({ frames := 2, cells := 1, slots := 64, locals := 48 } : Room) [] #[(.ref s), (.ref a), (.int (0 : Int32)), (.int (Int32.ofNat cs.length)), (.null)] σ h0 n0 (fun v h τ => σ = τ ∧ v = none ∧ Keep h0 h [s] ∧ Str Z h s cs ∧ SH Z h s cs 0 0) := by
  refine Con.of_go pn4 (ls := #[.val (.ref s), .val (.ref a), .val (.int (0 : Int32)), .val (.int (Int32.ofNat cs.length)), .val (.null), .unset]) (fun m => by first | (simp [entryFrame, mkF, argsToLocals, Value.category]; done) | rfl) ?_
  intro κ D
  have hl := hp.2
  have qs := own_ltn E.lt
  have hpos : 0 < cs.length := List.length_pos_iff.mpr hne
  refine Go.aloadN D (pc' := 1) d4_0 rfl rfl rfl ?_
  refine Go.initO D (pc' := 4) (hw _ (List.mem_of_getElem? (i := 23) rfl)) (hw _ (List.mem_of_getElem? (i := 24) rfl)) (hw _ (List.mem_of_getElem? (i := 25) rfl)) d4_1 rfl rfl (by decide) (W := 0) rfl (by decide) ?_
  refine Go.iloadN D (pc' := 5) d4_4 rfl rfl ?_
  refine Go.ifc D (pc' := 27) (pc2 := 8) d4_5 (by decide) (by decide) rfl ?_ ?_
  · intro (hc5 : ¬ (Int32.ofNat cs.length) = 0)
    refine Go.getS D (pc' := 30) (hw _ (List.mem_of_getElem? (i := 26) rfl)) d4_27 rfl O2 ?_
    refine Go.ifc D (pc' := 58) (pc2 := 33) d4_30 (by decide) (by decide) rfl ?_ ?_
    · intro (hc30 : cz = 0)
      exact absurd hc30 hcz
    · intro (hc30 : ¬ cz = 0)
      refine Go.aloadN D (pc' := 34) d4_33 rfl rfl rfl ?_
      refine Go.iloadN D (pc' := 35) d4_34 rfl rfl ?_
      refine Go.iloadN D (pc' := 36) d4_35 rfl rfl ?_
      refine Go.callS D (argsL := [(.ref a), (.int (0 : Int32)), (.int (Int32.ofNat cs.length))]) (rest := []) (pc' := 39) (ce' := 1) (sl' := 64) (con_cmp1 l Z a0 hw h0 n0 Z0 σ a ka cs A hp) (hw _ (List.mem_of_getElem? (i := 27) rfl)) (hw _ (List.mem_of_getElem? (i := 28) rfl)) (hw _ (List.mem_of_getElem? (i := 29) rfl)) (hw _ (List.mem_of_getElem? (i := 30) rfl)) (by decide) d4_36 rfl pd6 rfl rfl rfl (by decide) (W := 0) rfl (by decide) (by decide) (by decide) (by decide) (by decide) ?_
      intro v36 h1 σ36 q36
      obtain ⟨rfl, b, kb, rfl, gb, E1, B1, XB⟩ := q36
      show Go κ σ h1 1 64 39 #[.val (.ref s), .val (.ref a), .val (.int (0 : Int32)), .val (.int (Int32.ofNat cs.length)), .val (.null), .unset] [(.ref b)]
      refine Go.astore D (pc' := 41) d4_39 rfl rfl (ls' := #[.val (.ref s), .val (.ref a), .val (.int (0 : Int32)), .val (.int (Int32.ofNat cs.length)), .val (.null), .val (.ref b)]) rfl ?_
      refine Go.aloadN D (pc' := 42) d4_41 rfl rfl rfl ?_
      refine Go.aload D (pc' := 44) d4_42 rfl rfl rfl ?_
      refine Go.iloadN D (pc' := 45) d4_44 rfl rfl ?_
      refine Go.callS D (argsL := [(.ref b), (.int (Int32.ofNat cs.length))]) (rest := [(.ref s)]) (pc' := 48) (ce' := 1) (sl' := 64) (con_coder l Z a0 hw h1 n0 σ b kb _ _ B1) (hw _ (List.mem_of_getElem? (i := 35) rfl)) (hw _ (List.mem_of_getElem? (i := 36) rfl)) (hw _ (List.mem_of_getElem? (i := 29) rfl)) (hw _ (List.mem_of_getElem? (i := 37) rfl)) (by decide) d4_45 rfl pd8 rfl rfl rfl (by decide) (W := 1) rfl (by decide) (by decide) (by decide) (by decide) (by decide) ?_
      intro v45 h2 σ45 q45
      obtain ⟨rfl, rfl, rfl⟩ := q45
      show Go κ σ h1 1 64 48 #[.val (.ref s), .val (.ref a), .val (.int (0 : Int32)), .val (.int (Int32.ofNat cs.length)), .val (.null), .val (.ref b)] [(.int (0 : Int32)), (.ref s)]
      refine Go.putF D (pc' := 51) (hw _ (List.mem_of_getElem? (i := 38) rfl)) d4_48 rfl (Fc.ext E1) (E.ext E1) (Or.inr ⟨(hw _ (List.mem_of_getElem? (i := 39) rfl)), rfl, rfl⟩) (hw _ (List.mem_of_getElem? (i := 14) rfl)) (ty := .byte) (by decide) rfl rfl g0 ?_
      intro h3 W3
      refine Go.aloadN D (pc' := 52) d4_51 rfl rfl rfl ?_
      refine Go.aload D (pc' := 54) d4_52 rfl rfl rfl ?_
      refine Go.putF D (pc' := 57) (hw _ (List.mem_of_getElem? (i := 40) rfl)) d4_54 rfl ((Fv.ext E1).other W3 (Or.inr (slot_ne (Or.inr (hw _ (List.mem_of_getElem? (i := 41) rfl))) (Or.inr (hw _ (List.mem_of_getElem? (i := 39) rfl))) (by decide) (t := .array .byte) (t' := .byte) (by decide) (by decide)))) ((E.ext E1).wr W3) (Or.inr ⟨(hw _ (List.mem_of_getElem? (i := 41) rfl)), rfl, rfl⟩) (hw _ (List.mem_of_getElem? (i := 14) rfl)) (ty := (.array .byte)) (by decide) rfl rfl g0 ?_
      intro h4 W4
      refine Go.vret D rfl d4_57 (by decide) (by decide) ?_
      have nb : b ≠ s := own_ne (by omega)
      refine ⟨rfl, rfl, ?_, ⟨⟨((E.ext E1).wr W3).wr W4, ((Fc.ext E1).same W3).other W4 (Or.inr (slot_ne (Or.inr (hw _ (List.mem_of_getElem? (i := 39) rfl))) (Or.inr (hw _ (List.mem_of_getElem? (i := 41) rfl))) (by decide) (t := .byte) (t' := .array .byte) (by decide) (by decide))), b, kb, ((Fv.ext E1).other W3 (Or.inr (slot_ne (Or.inr (hw _ (List.mem_of_getElem? (i := 41) rfl))) (Or.inr (hw _ (List.mem_of_getElem? (i := 39) rfl))) (by decide) (t := .array .byte) (t' := .byte) (by decide) (by decide)))).same W4, (B1.other W3 nb).other W4 nb⟩, hp⟩, ((Fh.ext E1).other W3 (Or.inr (slot_ne (Or.inl (hw _ (List.mem_of_getElem? (i := 191) rfl))) (Or.inr (hw _ (List.mem_of_getElem? (i := 39) rfl))) (by decide) (t := .int) (t' := .byte) (by decide) (by decide)))).other W4 (Or.inr (slot_ne (Or.inl (hw _ (List.mem_of_getElem? (i := 191) rfl))) (Or.inr (hw _ (List.mem_of_getElem? (i := 41) rfl))) (by decide) (t := .int) (t' := .array .byte) (by decide) (by decide))), ((Fz.ext E1).other W3 (Or.inr (slot_ne (Or.inl (hw _ (List.mem_of_getElem? (i := 193) rfl))) (Or.inr (hw _ (List.mem_of_getElem? (i := 39) rfl))) (by decide) (t := .boolean) (t' := .byte) (by decide) (by decide)))).other W4 (Or.inr (slot_ne (Or.inl (hw _ (List.mem_of_getElem? (i := 193) rfl))) (Or.inr (hw _ (List.mem_of_getElem? (i := 41) rfl))) (by decide) (t := .boolean) (t' := .array .byte) (by decide) (by decide))), fun _ => ⟨b, ((Fv.ext E1).other W3 (Or.inr (slot_ne (Or.inr (hw _ (List.mem_of_getElem? (i := 41) rfl))) (Or.inr (hw _ (List.mem_of_getElem? (i := 39) rfl))) (by decide) (t := .array .byte) (t' := .byte) (by decide) (by decide)))).same W4, (XB.wr W3).wr W4⟩⟩
      exact (((Keep.refl _ _).ext E1).wr W3 (Or.inl (by simp))).wr W4 (Or.inl (by simp))
  · intro (hc5 : (Int32.ofNat cs.length) = 0)
    exact absurd (own_inj (j := 0) (by omega) (by omega) hc5) (by omega)
abbrev y3 : MethodName := ⟨"java/lang/String", "<init>", "([C)V"⟩
theorem d3_0 : decode jdk_42_method_3_code 0 = .ok (.aload_n 0, 1) := by decide +kernel
theorem d3_1 : decode jdk_42_method_3_code 1 = .ok (.aload_n 1, 1) := by decide +kernel
theorem d3_2 : decode jdk_42_method_3_code 2 = .ok (.iconst 0, 1) := by decide +kernel
theorem d3_3 : decode jdk_42_method_3_code 3 = .ok (.aload_n 1, 1) := by decide +kernel
theorem d3_4 : decode jdk_42_method_3_code 4 = .ok (.arraylength, 1) := by decide +kernel
theorem d3_5 : decode jdk_42_method_3_code 5 = .ok (.aconst_null, 1) := by decide +kernel
theorem d3_6 : decode jdk_42_method_3_code 6 = .ok (.invokespecial 27, 3) := by decide +kernel
theorem d3_9 : decode jdk_42_method_3_code 9 = .ok (.return_, 1) := by decide +kernel
theorem pd3 : parseMethodDescriptor "([C)V" = some ⟨[(.array .char)], none⟩ := by decide +kernel
theorem pn3 : plainFor y3 = true := by first | exact plainFor_of_name (by first | (simp [plainName, overriddenIn]; done) | decide +kernel) | decide +kernel | rfl
set_option maxRecDepth 65536 in
set_option maxHeartbeats 40000000 in
theorem con_strN (l : Launch) (Z : State) (a0 : Array Value) (hw : ∀ d ∈ tables_1, d.before a0 Z = true) (h0 : Heap) (n0 : Nat) (Z0 : n0 ≤ h0.size) (σ : Sg) (s : Addr) (a : Addr) (ka : ClassId) (cs : List Int32) (A : Arv Z h0 a ka .char (Int32.ofNat cs.length) (cs.map Value.int) (.int 0)) (hp : Lat cs) (hne : cs ≠ []) (cz : Int32) (hcz : ¬ cz = 0) (O2 : Sta Z Z.heap "java/lang/String" "COMPACT_STRINGS" "Z" (.int cz)) (g0 : n0 ≤ s) (E : Exa Z h0 s "java/lang/String") (Fv : Fld Z h0 s "java/lang/String" "value" "[B" .null) (Fc : Fld Z h0 s "java/lang/String" "coder" "B" (.int 0)) (Fh : Fld Z h0 s "java/lang/String" "hash" "I" (.int 0)) (Fz : Fld Z h0 s "java/lang/String" "hashIsZero" "Z" (.int 0)) :
    Con l Z y3 jdk_42_method_3_code 2 none ({ frames := 3, cells := 1, slots := 64, locals := 68 } : Room) [] #[(.ref s), (.ref a)] σ h0 n0 (fun v h τ => σ = τ ∧ v = none ∧ Keep h0 h [s] ∧ Str Z h s cs ∧ SH Z h s cs 0 0) := by
  refine Con.of_go pn3 (ls := #[.val (.ref s), .val (.ref a)]) (fun m => by first | (simp [entryFrame, mkF, argsToLocals, Value.category]; done) | rfl) ?_
  intro κ D
  refine Go.aloadN D (pc' := 1) d3_0 rfl rfl rfl ?_
  refine Go.aloadN D (pc' := 2) d3_1 rfl rfl rfl ?_
  refine Go.iconst D (pc' := 3) d3_2 rfl (v := (0 : Int32)) rfl ?_
  refine Go.aloadN D (pc' := 4) d3_3 rfl rfl rfl ?_
  refine Go.alen D (pc' := 5) d3_4 rfl A ?_
  refine Go.aconstNull D (pc' := 6) d3_5 rfl  ?_
  refine Go.callI D (argsL := [(.ref a), (.int (0 : Int32)), (.int (Int32.ofNat cs.length)), (.null)]) (rest := []) (pc' := 9) (ce' := 1) (sl' := 64) (con_strN4 l Z a0 hw h0 n0 Z0 σ s a ka cs A hp hne cz hcz O2 g0 E Fv Fc Fh Fz) rfl (hw _ (List.mem_of_getElem? (i := 19) rfl)) (hw _ (List.mem_of_getElem? (i := 20) rfl)) (hw _ (List.mem_of_getElem? (i := 15) rfl)) (hw _ (List.mem_of_getElem? (i := 22) rfl)) (by decide) d3_6 rfl pd4 rfl rfl rfl (by decide) (W := 0) rfl (by decide) (by decide) (by decide) (by decide) (by decide) ?_
  intro v6 h1 σ6 q6
  obtain ⟨rfl, rfl, q1, q2⟩ := q6
  show Go κ σ h1 1 64 9 #[.val (.ref s), .val (.ref a)] []
  refine Go.vret D rfl d3_9 (by decide) (by decide) ?_
  exact ⟨rfl, rfl, q1, q2⟩
abbrev y12 : MethodName := ⟨"java/util/Objects", "requireNonNull", "(Ljava/lang/Object;Ljava/lang/String;)Ljava/lang/Object;"⟩
theorem d12_0 : decode jdk_31_method_11_code 0 = .ok (.aload_n 0, 1) := by decide +kernel
theorem d12_1 : decode jdk_31_method_11_code 1 = .ok (.ifnonnull 12, 3) := by decide +kernel
theorem d12_13 : decode jdk_31_method_11_code 13 = .ok (.aload_n 0, 1) := by decide +kernel
theorem d12_14 : decode jdk_31_method_11_code 14 = .ok (.areturn, 1) := by decide +kernel
theorem pd12 : parseMethodDescriptor "(Ljava/lang/Object;Ljava/lang/String;)Ljava/lang/Object;" = some ⟨[(.object "java/lang/Object"), (.object "java/lang/String")], (some (.object "java/lang/Object"))⟩ := by decide +kernel
theorem pn12 : plainFor y12 = true := by first | exact plainFor_of_name (by first | (simp [plainName, overriddenIn]; done) | decide +kernel) | decide +kernel | rfl
set_option maxRecDepth 65536 in
set_option maxHeartbeats 40000000 in
theorem con_rnn (l : Launch) (Z : State) (a0 : Array Value) (hw : ∀ d ∈ tables_1, d.before a0 Z = true) (h0 : Heap) (n0 : Nat) (σ : Sg) (s u : Addr) :
    Con l Z y12 jdk_31_method_11_code 2 ((some (.object "java/lang/Object"))) ({ frames := 0, cells := 0, slots := 0, locals := 0 } : Room) [] #[(.ref s), (.ref u)] σ h0 n0 (fun v h τ => h0 = h ∧ σ = τ ∧ v = some (.ref s)) := by
  refine Con.of_go pn12 (ls := #[.val (.ref s), .val (.ref u)]) (fun m => by first | (simp [entryFrame, mkF, argsToLocals, Value.category]; done) | rfl) ?_
  intro κ D
  refine Go.aloadN D (pc' := 1) d12_0 rfl rfl rfl ?_
  refine Go.ifnonnullY D (pc' := 13) d12_1 (by decide) (by decide) ?_
  refine Go.aloadN D (pc' := 14) d12_13 rfl rfl rfl ?_
  refine Go.aret D rfl rfl rfl d12_14 (by decide) (by decide) ?_
  exact ⟨rfl, rfl, rfl⟩
theorem own_shr0 (x : Int32) : x >>> ((0 : Int32) &&& 31) = x := by
  apply Int32.toInt_inj.mp
  rw [c_ishr x 0 0 (by decide)]
  simp
theorem byte_back {c : Int32} (h : ¬ c < 0 ∧ c < 256) : (c.toInt8.toInt32 &&& 255) = c := by
  have a := c_i2b c
  have b := c_mask (c.toInt8.toInt32) 255 8 (by decide) (by decide)
  simp only [Int32.lt_iff_toInt_lt, show (0 : Int32).toInt = 0 from rfl, show (256 : Int32).toInt = 256 from rfl] at h
  apply Int32.toInt_inj.mp
  rw [b, show ((2 ^ 8 : Nat) : Int) = 256 from rfl]
  omega
theorem char_nar {c : Int32} (h : ¬ c < 0 ∧ c < 256) : c.toUInt32.toUInt16.toUInt32.toInt32 = c := by
  have e := i2c_mask c.toInt8.toInt32
  rw [byte_back h] at e
  exact e

abbrev y15 : MethodName := ⟨"java/lang/String", "coder", "()B"⟩
theorem d15_0 : decode jdk_42_method_152_code 0 = .ok (.getstatic 38, 3) := by decide +kernel
theorem d15_3 : decode jdk_42_method_152_code 3 = .ok (.ifCond .eq 10, 3) := by decide +kernel
theorem d15_6 : decode jdk_42_method_152_code 6 = .ok (.aload_n 0, 1) := by decide +kernel
theorem d15_7 : decode jdk_42_method_152_code 7 = .ok (.getfield 15, 3) := by decide +kernel
theorem d15_10 : decode jdk_42_method_152_code 10 = .ok (.goto 4, 3) := by decide +kernel
theorem d15_13 : decode jdk_42_method_152_code 13 = .ok (.iconst 1, 1) := by decide +kernel
theorem d15_14 : decode jdk_42_method_152_code 14 = .ok (.ireturn, 1) := by decide +kernel
theorem pd15 : parseMethodDescriptor "()B" = some ⟨[], (some .byte)⟩ := by decide +kernel
theorem pn15 : plainFor y15 = true := by first | exact plainFor_of_name (by first | (simp [plainName, overriddenIn]; done) | decide +kernel) | decide +kernel | rfl
set_option maxRecDepth 65536 in
set_option maxHeartbeats 40000000 in
theorem con_scoder (l : Launch) (Z : State) (a0 : Array Value) (hw : ∀ d ∈ tables_1, d.before a0 Z = true) (h0 : Heap) (n0 : Nat) (σ : Sg) (s : Addr) (F : Fld Z h0 s "java/lang/String" "coder" "B" (.int 0)) (cz : Int32) (hcz : ¬ cz = 0) (O2 : Sta Z Z.heap "java/lang/String" "COMPACT_STRINGS" "Z" (.int cz)) :
    Con l Z y15 jdk_42_method_152_code 1 ((some .byte)) ({ frames := 0, cells := 0, slots := 0, locals := 0 } : Room) [] #[(.ref s)] σ h0 n0 (fun v h τ => h0 = h ∧ σ = τ ∧ v = some (.int 0)) := by
  refine Con.of_go pn15 (ls := #[.val (.ref s)]) (fun m => by first | (simp [entryFrame, mkF, argsToLocals, Value.category]; done) | rfl) ?_
  intro κ D
  refine Go.getS D (pc' := 3) (hw _ (List.mem_of_getElem? (i := 26) rfl)) d15_0 rfl O2 ?_
  refine Go.ifc D (pc' := 13) (pc2 := 6) d15_3 (by decide) (by decide) rfl ?_ ?_
  · intro (hc3 : cz = 0)
    exact absurd hc3 hcz
  · intro (hc3 : ¬ cz = 0)
    refine Go.aloadN D (pc' := 7) d15_6 rfl rfl rfl ?_
    refine Go.getF D (pc' := 10) (hw _ (List.mem_of_getElem? (i := 38) rfl)) d15_7 rfl F ?_
    refine Go.goto D (pc' := 14) d15_10 (by decide) (by decide) ?_
    refine Go.bret D rfl rfl d15_14 (by decide) (by decide) ?_
    exact ⟨rfl, rfl, rfl⟩
abbrev y14 : MethodName := ⟨"java/lang/String", "length", "()I"⟩
theorem d14_0 : decode jdk_42_method_54_code 0 = .ok (.aload_n 0, 1) := by decide +kernel
theorem d14_1 : decode jdk_42_method_54_code 1 = .ok (.getfield 9, 3) := by decide +kernel
theorem d14_4 : decode jdk_42_method_54_code 4 = .ok (.arraylength, 1) := by decide +kernel
theorem d14_5 : decode jdk_42_method_54_code 5 = .ok (.aload_n 0, 1) := by decide +kernel
theorem d14_6 : decode jdk_42_method_54_code 6 = .ok (.invokevirtual 335, 3) := by decide +kernel
theorem d14_9 : decode jdk_42_method_54_code 9 = .ok (.ishr, 1) := by decide +kernel
theorem d14_10 : decode jdk_42_method_54_code 10 = .ok (.ireturn, 1) := by decide +kernel
theorem pd14 : parseMethodDescriptor "()I" = some ⟨[], (some .int)⟩ := by decide +kernel
theorem pn14 : plainFor y14 = true := by first | exact plainFor_of_name (by first | (simp [plainName, overriddenIn]; done) | decide +kernel) | decide +kernel | rfl
set_option maxRecDepth 65536 in
set_option maxHeartbeats 40000000 in
theorem con_slen (l : Launch) (Z : State) (a0 : Array Value) (hw : ∀ d ∈ tables_1, d.before a0 Z = true) (h0 : Heap) (n0 : Nat) (σ : Sg) (s : Addr) (cs : List Int32) (S : Str Z h0 s cs) (cz : Int32) (hcz : ¬ cz = 0) (O2 : Sta Z Z.heap "java/lang/String" "COMPACT_STRINGS" "Z" (.int cz)) :
    Con l Z y14 jdk_42_method_54_code 1 ((some .int)) ({ frames := 1, cells := 0, slots := 0, locals := 13 } : Room) [] #[(.ref s)] σ h0 n0 (fun v h τ => h0 = h ∧ σ = τ ∧ v = some (.int (Int32.ofNat cs.length))) := by
  refine Con.of_go pn14 (ls := #[.val (.ref s)]) (fun m => by first | (simp [entryFrame, mkF, argsToLocals, Value.category]; done) | rfl) ?_
  intro κ D
  obtain ⟨e1, e2, b, kb, e3, e4⟩ := id S.1
  refine Go.aloadN D (pc' := 1) d14_0 rfl rfl rfl ?_
  refine Go.getF D (pc' := 4) (hw _ (List.mem_of_getElem? (i := 40) rfl)) d14_1 rfl e3 ?_
  refine Go.alen D (pc' := 5) d14_4 rfl e4 ?_
  refine Go.aloadN D (pc' := 6) d14_5 rfl rfl rfl ?_
  refine Go.callV D (argsL := []) (rest := [(.int (Int32.ofNat cs.length))]) (pc' := 9) (ce' := 0) (sl' := 0) (con_scoder l Z a0 hw h0 n0 σ s e2 cz hcz O2) (hw _ (List.mem_of_getElem? (i := 71) rfl)) (hw _ (List.mem_of_getElem? (i := 72) rfl)) (hw _ (List.mem_of_getElem? (i := 74) rfl)) (hw _ (List.mem_of_getElem? (i := 73) rfl)) (hw _ (List.mem_of_getElem? (i := 15) rfl)) (hw _ (List.mem_of_getElem? (i := 75) rfl)) (nfS (hw _ (List.mem_of_getElem? (i := 74) rfl))) (by decide) e1 d14_6 rfl pd15 rfl rfl rfl (by decide) (W := 1) rfl (by decide) (by decide) (by decide) (by decide) (by decide) ?_
  intro v6 h6 σ6 q6
  obtain ⟨rfl, rfl, rfl⟩ := q6
  show Go κ σ h0 0 0 9 #[.val (.ref s)] [(.int (0 : Int32)), (.int (Int32.ofNat cs.length))]
  refine Go.ishr D (pc' := 10) d14_9 rfl  ?_
  rw [own_shr0]
  refine Go.iret D rfl d14_10 (by decide) (by decide) ?_
  exact ⟨rfl, rfl, rfl⟩
abbrev y13 : MethodName := ⟨"java/lang/String", "isEmpty", "()Z"⟩
theorem d13_0 : decode jdk_42_method_55_code 0 = .ok (.aload_n 0, 1) := by decide +kernel
theorem d13_1 : decode jdk_42_method_55_code 1 = .ok (.getfield 9, 3) := by decide +kernel
theorem d13_4 : decode jdk_42_method_55_code 4 = .ok (.arraylength, 1) := by decide +kernel
theorem d13_5 : decode jdk_42_method_55_code 5 = .ok (.ifCond .ne 7, 3) := by decide +kernel
theorem d13_8 : decode jdk_42_method_55_code 8 = .ok (.iconst 1, 1) := by decide +kernel
theorem d13_9 : decode jdk_42_method_55_code 9 = .ok (.goto 4, 3) := by decide +kernel
theorem d13_12 : decode jdk_42_method_55_code 12 = .ok (.iconst 0, 1) := by decide +kernel
theorem d13_13 : decode jdk_42_method_55_code 13 = .ok (.ireturn, 1) := by decide +kernel
theorem pd13 : parseMethodDescriptor "()Z" = some ⟨[], (some .boolean)⟩ := by decide +kernel
theorem pn13 : plainFor y13 = true := by first | exact plainFor_of_name (by first | (simp [plainName, overriddenIn]; done) | decide +kernel) | decide +kernel | rfl
set_option maxRecDepth 65536 in
set_option maxHeartbeats 40000000 in
theorem con_sempty (l : Launch) (Z : State) (a0 : Array Value) (hw : ∀ d ∈ tables_1, d.before a0 Z = true) (h0 : Heap) (n0 : Nat) (σ : Sg) (s : Addr) (cs : List Int32) (S : Str Z h0 s cs) :
    Con l Z y13 jdk_42_method_55_code 1 ((some .boolean)) ({ frames := 0, cells := 0, slots := 0, locals := 0 } : Room) [] #[(.ref s)] σ h0 n0 (fun v h τ => h0 = h ∧ σ = τ ∧ ∃ r, v = some (.int r) ∧ ((r = 1 ∧ cs = []) ∨ (r = 0 ∧ ¬ cs = []))) := by
  refine Con.of_go pn13 (ls := #[.val (.ref s)]) (fun m => by first | (simp [entryFrame, mkF, argsToLocals, Value.category]; done) | rfl) ?_
  intro κ D
  obtain ⟨e1, e2, b, kb, e3, e4⟩ := id S.1
  have hl := S.2.2
  refine Go.aloadN D (pc' := 1) d13_0 rfl rfl rfl ?_
  refine Go.getF D (pc' := 4) (hw _ (List.mem_of_getElem? (i := 40) rfl)) d13_1 rfl e3 ?_
  refine Go.alen D (pc' := 5) d13_4 rfl e4 ?_
  refine Go.ifc D (pc' := 12) (pc2 := 8) d13_5 (by decide) (by decide) rfl ?_ ?_
  · intro (hc5 : ¬ (Int32.ofNat cs.length) = 0)
    refine Go.iconst D (pc' := 13) d13_12 rfl (v := (0 : Int32)) rfl ?_
    refine Go.zret D rfl rfl d13_13 (by decide) (by decide) ?_
    exact ⟨rfl, rfl, _, rfl, Or.inr ⟨rfl, fun z => hc5 (by rw [z]; rfl)⟩⟩
  · intro (hc5 : (Int32.ofNat cs.length) = 0)
    refine Go.iconst D (pc' := 9) d13_8 rfl (v := (1 : Int32)) rfl ?_
    refine Go.goto D (pc' := 13) d13_9 (by decide) (by decide) ?_
    refine Go.zret D rfl rfl d13_13 (by decide) (by decide) ?_
    exact ⟨rfl, rfl, _, rfl, Or.inl ⟨rfl, List.eq_nil_of_length_eq_zero (own_inj (j := 0) (by omega) (by omega) hc5)⟩⟩

abbrev y18 : MethodName := ⟨"java/lang/String", "isLatin1", "()Z"⟩
theorem d18_0 : decode jdk_42_method_154_code 0 = .ok (.getstatic 38, 3) := by decide +kernel
theorem d18_3 : decode jdk_42_method_154_code 3 = .ok (.ifCond .eq 14, 3) := by decide +kernel
theorem d18_6 : decode jdk_42_method_154_code 6 = .ok (.aload_n 0, 1) := by decide +kernel
theorem d18_7 : decode jdk_42_method_154_code 7 = .ok (.getfield 15, 3) := by decide +kernel
theorem d18_10 : decode jdk_42_method_154_code 10 = .ok (.ifCond .ne 7, 3) := by decide +kernel
theorem d18_13 : decode jdk_42_method_154_code 13 = .ok (.iconst 1, 1) := by decide +kernel
theorem d18_14 : decode jdk_42_method_154_code 14 = .ok (.goto 4, 3) := by decide +kernel
theorem d18_17 : decode jdk_42_method_154_code 17 = .ok (.iconst 0, 1) := by decide +kernel
theorem d18_18 : decode jdk_42_method_154_code 18 = .ok (.ireturn, 1) := by decide +kernel
theorem pd18 : parseMethodDescriptor "()Z" = some ⟨[], (some .boolean)⟩ := by decide +kernel
theorem pn18 : plainFor y18 = true := by first | exact plainFor_of_name (by first | (simp [plainName, overriddenIn]; done) | decide +kernel) | decide +kernel | rfl
set_option maxRecDepth 65536 in
set_option maxHeartbeats 40000000 in
theorem con_sisl (l : Launch) (Z : State) (a0 : Array Value) (hw : ∀ d ∈ tables_1, d.before a0 Z = true) (h0 : Heap) (n0 : Nat) (σ : Sg) (s : Addr) (F : Fld Z h0 s "java/lang/String" "coder" "B" (.int 0)) (cz : Int32) (hcz : ¬ cz = 0) (O2 : Sta Z Z.heap "java/lang/String" "COMPACT_STRINGS" "Z" (.int cz)) :
    Con l Z y18 jdk_42_method_154_code 1 ((some .boolean)) ({ frames := 0, cells := 0, slots := 0, locals := 0 } : Room) [] #[(.ref s)] σ h0 n0 (fun v h τ => h0 = h ∧ σ = τ ∧ v = some (.int 1)) := by
  refine Con.of_go pn18 (ls := #[.val (.ref s)]) (fun m => by first | (simp [entryFrame, mkF, argsToLocals, Value.category]; done) | rfl) ?_
  intro κ D
  refine Go.getS D (pc' := 3) (hw _ (List.mem_of_getElem? (i := 26) rfl)) d18_0 rfl O2 ?_
  refine Go.ifc D (pc' := 17) (pc2 := 6) d18_3 (by decide) (by decide) rfl ?_ ?_
  · intro (hc3 : cz = 0)
    exact absurd hc3 hcz
  · intro (hc3 : ¬ cz = 0)
    refine Go.aloadN D (pc' := 7) d18_6 rfl rfl rfl ?_
    refine Go.getF D (pc' := 10) (hw _ (List.mem_of_getElem? (i := 38) rfl)) d18_7 rfl F ?_
    refine Go.ifc D (pc' := 17) (pc2 := 13) d18_10 (by decide) (by decide) rfl (fun (hc : ¬ (0 : Int32) = 0) => absurd hc (by decide)) (fun _ => ?_)
    refine Go.iconst D (pc' := 14) d18_13 rfl (v := (1 : Int32)) rfl ?_
    refine Go.goto D (pc' := 18) d18_14 (by decide) (by decide) ?_
    refine Go.zret D rfl rfl d18_18 (by decide) (by decide) ?_
    exact ⟨rfl, rfl, rfl⟩
abbrev y21 : MethodName := ⟨"jdk/internal/util/Preconditions", "checkIndex", "(IILjava/util/function/BiFunction;)I"⟩
theorem d21_0 : decode jdk_41_method_11_code 0 = .ok (.iload_n 0, 1) := by decide +kernel
theorem d21_1 : decode jdk_41_method_11_code 1 = .ok (.ifCond .lt 8, 3) := by decide +kernel
theorem d21_4 : decode jdk_41_method_11_code 4 = .ok (.iload_n 0, 1) := by decide +kernel
theorem d21_5 : decode jdk_41_method_11_code 5 = .ok (.iload_n 1, 1) := by decide +kernel
theorem d21_6 : decode jdk_41_method_11_code 6 = .ok (.if_icmp .lt 10, 3) := by decide +kernel
theorem d21_16 : decode jdk_41_method_11_code 16 = .ok (.iload_n 0, 1) := by decide +kernel
theorem d21_17 : decode jdk_41_method_11_code 17 = .ok (.ireturn, 1) := by decide +kernel
theorem pd21 : parseMethodDescriptor "(IILjava/util/function/BiFunction;)I" = some ⟨[.int, .int, (.object "java/util/function/BiFunction")], (some .int)⟩ := by decide +kernel
theorem pn21 : plainFor y21 = true := by first | exact plainFor_of_name (by first | (simp [plainName, overriddenIn]; done) | decide +kernel) | decide +kernel | rfl
set_option maxRecDepth 65536 in
set_option maxHeartbeats 40000000 in
theorem con_chkN (l : Launch) (Z : State) (a0 : Array Value) (hw : ∀ d ∈ tables_1, d.before a0 Z = true) (h0 : Heap) (n0 : Nat) (σ : Sg) (i n : Int32) (h1 : ¬ i < 0) (h2 : i < n) :
    Con l Z y21 jdk_41_method_11_code 3 ((some .int)) ({ frames := 0, cells := 0, slots := 0, locals := 0 } : Room) [] #[(.int i), (.int n), (.null)] σ h0 n0 (fun v h τ => h0 = h ∧ σ = τ ∧ v = some (.int i)) := by
  refine Con.of_go pn21 (ls := #[.val (.int i), .val (.int n), .val (.null)]) (fun m => by first | (simp [entryFrame, mkF, argsToLocals, Value.category]; done) | rfl) ?_
  intro κ D
  refine Go.iloadN D (pc' := 1) d21_0 rfl rfl ?_
  refine Go.ifc D (pc' := 9) (pc2 := 4) d21_1 (by decide) (by decide) rfl ?_ ?_
  · intro (hc1 : i < 0)
    exact absurd hc1 h1
  · intro (hc1 : ¬ i < 0)
    refine Go.iloadN D (pc' := 5) d21_4 rfl rfl ?_
    refine Go.iloadN D (pc' := 6) d21_5 rfl rfl ?_
    refine Go.icmp D (pc' := 16) (pc2 := 9) d21_6 (by decide) (by decide) rfl ?_ ?_
    · intro (hc6 : i < n)
      refine Go.iloadN D (pc' := 17) d21_16 rfl rfl ?_
      refine Go.iret D rfl d21_17 (by decide) (by decide) ?_
      exact ⟨rfl, rfl, rfl⟩
    · intro (hc6 : ¬ i < n)
      exact absurd h2 hc6
set_option maxRecDepth 65536 in
set_option maxHeartbeats 40000000 in
theorem con_chkR (l : Launch) (Z : State) (a0 : Array Value) (hw : ∀ d ∈ tables_1, d.before a0 Z = true) (h0 : Heap) (n0 : Nat) (σ : Sg) (i n : Int32) (h1 : ¬ i < 0) (h2 : i < n) (fa : Addr) :
    Con l Z y21 jdk_41_method_11_code 3 ((some .int)) ({ frames := 0, cells := 0, slots := 0, locals := 0 } : Room) [] #[(.int i), (.int n), (.ref fa)] σ h0 n0 (fun v h τ => h0 = h ∧ σ = τ ∧ v = some (.int i)) := by
  refine Con.of_go pn21 (ls := #[.val (.int i), .val (.int n), .val (.ref fa)]) (fun m => by first | (simp [entryFrame, mkF, argsToLocals, Value.category]; done) | rfl) ?_
  intro κ D
  refine Go.iloadN D (pc' := 1) d21_0 rfl rfl ?_
  refine Go.ifc D (pc' := 9) (pc2 := 4) d21_1 (by decide) (by decide) rfl ?_ ?_
  · intro (hc1 : i < 0)
    exact absurd hc1 h1
  · intro (hc1 : ¬ i < 0)
    refine Go.iloadN D (pc' := 5) d21_4 rfl rfl ?_
    refine Go.iloadN D (pc' := 6) d21_5 rfl rfl ?_
    refine Go.icmp D (pc' := 16) (pc2 := 9) d21_6 (by decide) (by decide) rfl ?_ ?_
    · intro (hc6 : i < n)
      refine Go.iloadN D (pc' := 17) d21_16 rfl rfl ?_
      refine Go.iret D rfl d21_17 (by decide) (by decide) ?_
      exact ⟨rfl, rfl, rfl⟩
    · intro (hc6 : ¬ i < n)
      exact absurd h2 hc6
abbrev y20 : MethodName := ⟨"java/lang/String", "checkIndex", "(II)V"⟩
theorem d20_0 : decode jdk_42_method_155_code 0 = .ok (.iload_n 0, 1) := by decide +kernel
theorem d20_1 : decode jdk_42_method_155_code 1 = .ok (.iload_n 1, 1) := by decide +kernel
theorem d20_2 : decode jdk_42_method_155_code 2 = .ok (.getstatic 1053, 3) := by decide +kernel
theorem d20_5 : decode jdk_42_method_155_code 5 = .ok (.invokestatic 1059, 3) := by decide +kernel
theorem d20_8 : decode jdk_42_method_155_code 8 = .ok (.pop, 1) := by decide +kernel
theorem d20_9 : decode jdk_42_method_155_code 9 = .ok (.return_, 1) := by decide +kernel
theorem pd20 : parseMethodDescriptor "(II)V" = some ⟨[.int, .int], none⟩ := by decide +kernel
theorem pn20 : plainFor y20 = true := by first | exact plainFor_of_name (by first | (simp [plainName, overriddenIn]; done) | decide +kernel) | decide +kernel | rfl
set_option maxRecDepth 65536 in
set_option maxHeartbeats 40000000 in
theorem con_sci (l : Launch) (Z : State) (a0 : Array Value) (hw : ∀ d ∈ tables_1, d.before a0 Z = true) (h0 : Heap) (n0 : Nat) (σ : Sg) (i n : Int32) (h1 : ¬ i < 0) (h2 : i < n) (fm : Value) (rf : fm.isRef = true) (O4 : Sta Z Z.heap "jdk/internal/util/Preconditions" "SIOOBE_FORMATTER" "Ljava/util/function/BiFunction;" fm) :
    Con l Z y20 jdk_42_method_155_code 2 none ({ frames := 1, cells := 0, slots := 0, locals := 14 } : Room) [] #[(.int i), (.int n)] σ h0 n0 (fun v h τ => h0 = h ∧ σ = τ ∧ v = none) := by
  refine Con.of_go pn20 (ls := #[.val (.int i), .val (.int n)]) (fun m => by first | (simp [entryFrame, mkF, argsToLocals, Value.category]; done) | rfl) ?_
  intro κ D
  rcases ref_cases rf with rfl | ⟨fa, rfl⟩
  · skip
    refine Go.iloadN D (pc' := 1) d20_0 rfl rfl ?_
    refine Go.iloadN D (pc' := 2) d20_1 rfl rfl ?_
    refine Go.getS D (pc' := 5) (hw _ (List.mem_of_getElem? (i := 96) rfl)) d20_2 rfl O4 ?_
    refine Go.callS D (argsL := [(.int i), (.int n), (.null)]) (rest := []) (pc' := 8) (ce' := 0) (sl' := 0) (con_chkN l Z a0 hw h0 n0 σ i n h1 h2) (hw _ (List.mem_of_getElem? (i := 98) rfl)) (hw _ (List.mem_of_getElem? (i := 99) rfl)) (hw _ (List.mem_of_getElem? (i := 97) rfl)) (hw _ (List.mem_of_getElem? (i := 100) rfl)) (by decide) d20_5 rfl pd21 rfl rfl rfl (by decide) (W := 0) rfl (by decide) (by decide) (by decide) (by decide) (by decide) ?_
    intro v5 h5 σ5 q5
    obtain ⟨rfl, rfl, rfl⟩ := q5
    show Go κ σ h0 0 0 8 #[.val (.int i), .val (.int n)] [(.int i)]
    refine Go.pop D (pc' := 9) d20_8 rfl rfl ?_
    refine Go.vret D rfl d20_9 (by decide) (by decide) ?_
    exact ⟨rfl, rfl, rfl⟩
  · skip
    refine Go.iloadN D (pc' := 1) d20_0 rfl rfl ?_
    refine Go.iloadN D (pc' := 2) d20_1 rfl rfl ?_
    refine Go.getS D (pc' := 5) (hw _ (List.mem_of_getElem? (i := 96) rfl)) d20_2 rfl O4 ?_
    refine Go.callS D (argsL := [(.int i), (.int n), (.ref fa)]) (rest := []) (pc' := 8) (ce' := 0) (sl' := 0) (con_chkR l Z a0 hw h0 n0 σ i n h1 h2 fa) (hw _ (List.mem_of_getElem? (i := 98) rfl)) (hw _ (List.mem_of_getElem? (i := 99) rfl)) (hw _ (List.mem_of_getElem? (i := 97) rfl)) (hw _ (List.mem_of_getElem? (i := 100) rfl)) (by decide) d20_5 rfl pd21 rfl rfl rfl (by decide) (W := 0) rfl (by decide) (by decide) (by decide) (by decide) (by decide) ?_
    intro v5 h5 σ5 q5
    obtain ⟨rfl, rfl, rfl⟩ := q5
    show Go κ σ h0 0 0 8 #[.val (.int i), .val (.int n)] [(.int i)]
    refine Go.pop D (pc' := 9) d20_8 rfl rfl ?_
    refine Go.vret D rfl d20_9 (by decide) (by decide) ?_
    exact ⟨rfl, rfl, rfl⟩
abbrev y19 : MethodName := ⟨"java/lang/StringLatin1", "charAt", "([BI)C"⟩
theorem d19_0 : decode jdk_43_method_2_code 0 = .ok (.iload_n 1, 1) := by decide +kernel
theorem d19_1 : decode jdk_43_method_2_code 1 = .ok (.aload_n 0, 1) := by decide +kernel
theorem d19_2 : decode jdk_43_method_2_code 2 = .ok (.arraylength, 1) := by decide +kernel
theorem d19_3 : decode jdk_43_method_2_code 3 = .ok (.invokestatic 9, 3) := by decide +kernel
theorem d19_6 : decode jdk_43_method_2_code 6 = .ok (.aload_n 0, 1) := by decide +kernel
theorem d19_7 : decode jdk_43_method_2_code 7 = .ok (.iload_n 1, 1) := by decide +kernel
theorem d19_8 : decode jdk_43_method_2_code 8 = .ok (.baload, 1) := by decide +kernel
theorem d19_9 : decode jdk_43_method_2_code 9 = .ok (.sipush 255, 3) := by decide +kernel
theorem d19_12 : decode jdk_43_method_2_code 12 = .ok (.iand, 1) := by decide +kernel
theorem d19_13 : decode jdk_43_method_2_code 13 = .ok (.i2c, 1) := by decide +kernel
theorem d19_14 : decode jdk_43_method_2_code 14 = .ok (.ireturn, 1) := by decide +kernel
theorem pd19 : parseMethodDescriptor "([BI)C" = some ⟨[(.array .byte), .int], (some .char)⟩ := by decide +kernel
theorem pn19 : plainFor y19 = true := by first | exact plainFor_of_name (by first | (simp [plainName, overriddenIn]; done) | decide +kernel) | decide +kernel | rfl
set_option maxRecDepth 65536 in
set_option maxHeartbeats 40000000 in
theorem con_lch (l : Launch) (Z : State) (a0 : Array Value) (hw : ∀ d ∈ tables_1, d.before a0 Z = true) (h0 : Heap) (n0 : Nat) (σ : Sg) (b : Addr) (kb : ClassId) (cs : List Int32) (B : Arv Z h0 b kb .byte (Int32.ofNat cs.length) (bv cs) (.int 0)) (hp : Lat cs) (i : Nat) (hi : i < cs.length) (fm : Value) (rf : fm.isRef = true) (O4 : Sta Z Z.heap "jdk/internal/util/Preconditions" "SIOOBE_FORMATTER" "Ljava/util/function/BiFunction;" fm) :
    Con l Z y19 jdk_43_method_2_code 2 ((some .char)) ({ frames := 2, cells := 0, slots := 0, locals := 28 } : Room) [] #[(.ref b), (.int (Int32.ofNat i))] σ h0 n0 (fun v h τ => h0 = h ∧ σ = τ ∧ v = some (.int cs[i])) := by
  refine Con.of_go pn19 (ls := #[.val (.ref b), .val (.int (Int32.ofNat i))]) (fun m => by first | (simp [entryFrame, mkF, argsToLocals, Value.category]; done) | rfl) ?_
  intro κ D
  have hl := hp.2
  refine Go.iloadN D (pc' := 1) d19_0 rfl rfl ?_
  refine Go.aloadN D (pc' := 2) d19_1 rfl rfl rfl ?_
  refine Go.alen D (pc' := 3) d19_2 rfl B ?_
  refine Go.callS D (argsL := [(.int (Int32.ofNat i)), (.int (Int32.ofNat cs.length))]) (rest := []) (pc' := 6) (ce' := 0) (sl' := 0) (con_sci l Z a0 hw h0 n0 σ (Int32.ofNat i) (Int32.ofNat cs.length) (own_nn (by omega)) ((own_lt (by omega) (by omega)).mpr hi) fm rf O4) (hw _ (List.mem_of_getElem? (i := 93) rfl)) (hw _ (List.mem_of_getElem? (i := 94) rfl)) (hw _ (List.mem_of_getElem? (i := 15) rfl)) (hw _ (List.mem_of_getElem? (i := 95) rfl)) (by decide) d19_3 rfl pd20 rfl rfl rfl (by decide) (W := 0) rfl (by decide) (by decide) (by decide) (by decide) (by decide) ?_
  intro v3 h3 σ3 q3
  obtain ⟨rfl, rfl, rfl⟩ := q3
  show Go κ σ h0 0 0 6 #[.val (.ref b), .val (.int (Int32.ofNat i))] []
  refine Go.aloadN D (pc' := 7) d19_6 rfl rfl rfl ?_
  refine Go.iloadN D (pc' := 8) d19_7 rfl rfl ?_
  refine Go.baload D (pc' := 9) d19_8 rfl B (own_nn (by omega)) ((own_lt (by omega) (by omega)).mpr hi) (v := .int (cs[i].toInt8.toInt32)) (by rw [own_tn (by omega)]; exact bv_at hi _) ?_
  refine Go.sipush D (pc' := 12) d19_9 rfl (v := (255 : Int32)) rfl ?_
  refine Go.iand D (pc' := 13) d19_12 rfl  ?_
  refine Go.i2c D (pc' := 14) d19_13 rfl  ?_
  rw [i2c_mask, byte_back (hp.1 _ (List.getElem_mem hi))]
  refine Go.cret D rfl (congrArg Value.int (char_nar (hp.1 _ (List.getElem_mem hi)))) d19_14 (by decide) (by decide) ?_
  exact ⟨rfl, rfl, rfl⟩
abbrev y17 : MethodName := ⟨"java/lang/String", "charAt", "(I)C"⟩
theorem d17_0 : decode jdk_42_method_56_code 0 = .ok (.aload_n 0, 1) := by decide +kernel
theorem d17_1 : decode jdk_42_method_56_code 1 = .ok (.invokevirtual 492, 3) := by decide +kernel
theorem d17_4 : decode jdk_42_method_56_code 4 = .ok (.ifCond .eq 12, 3) := by decide +kernel
theorem d17_7 : decode jdk_42_method_56_code 7 = .ok (.aload_n 0, 1) := by decide +kernel
theorem d17_8 : decode jdk_42_method_56_code 8 = .ok (.getfield 9, 3) := by decide +kernel
theorem d17_11 : decode jdk_42_method_56_code 11 = .ok (.iload_n 1, 1) := by decide +kernel
theorem d17_12 : decode jdk_42_method_56_code 12 = .ok (.invokestatic 495, 3) := by decide +kernel
theorem d17_15 : decode jdk_42_method_56_code 15 = .ok (.ireturn, 1) := by decide +kernel
theorem pd17 : parseMethodDescriptor "(I)C" = some ⟨[.int], (some .char)⟩ := by decide +kernel
theorem pn17 : plainFor y17 = true := by first | exact plainFor_of_name (by first | (simp [plainName, overriddenIn]; done) | decide +kernel) | decide +kernel | rfl
set_option maxRecDepth 65536 in
set_option maxHeartbeats 40000000 in
theorem con_chAt (l : Launch) (Z : State) (a0 : Array Value) (hw : ∀ d ∈ tables_1, d.before a0 Z = true) (h0 : Heap) (n0 : Nat) (σ : Sg) (s : Addr) (cs : List Int32) (S : Str Z h0 s cs) (i : Nat) (hi : i < cs.length) (cz : Int32) (hcz : ¬ cz = 0) (O2 : Sta Z Z.heap "java/lang/String" "COMPACT_STRINGS" "Z" (.int cz)) (fm : Value) (rf : fm.isRef = true) (O4 : Sta Z Z.heap "jdk/internal/util/Preconditions" "SIOOBE_FORMATTER" "Ljava/util/function/BiFunction;" fm) :
    Con l Z y17 jdk_42_method_56_code 2 ((some .char)) ({ frames := 3, cells := 0, slots := 0, locals := 42 } : Room) [] #[(.ref s), (.int (Int32.ofNat i))] σ h0 n0 (fun v h τ => h0 = h ∧ σ = τ ∧ v = some (.int cs[i])) := by
  refine Con.of_go pn17 (ls := #[.val (.ref s), .val (.int (Int32.ofNat i))]) (fun m => by first | (simp [entryFrame, mkF, argsToLocals, Value.category]; done) | rfl) ?_
  intro κ D
  obtain ⟨e1, e2, b, kb, e3, e4⟩ := id S.1
  refine Go.aloadN D (pc' := 1) d17_0 rfl rfl rfl ?_
  refine Go.callV D (argsL := []) (rest := []) (pc' := 4) (ce' := 0) (sl' := 0) (con_sisl l Z a0 hw h0 n0 σ s e2 cz hcz O2) (hw _ (List.mem_of_getElem? (i := 84) rfl)) (hw _ (List.mem_of_getElem? (i := 85) rfl)) (hw _ (List.mem_of_getElem? (i := 87) rfl)) (hw _ (List.mem_of_getElem? (i := 86) rfl)) (hw _ (List.mem_of_getElem? (i := 15) rfl)) (hw _ (List.mem_of_getElem? (i := 88) rfl)) (nfS (hw _ (List.mem_of_getElem? (i := 87) rfl))) (by decide) e1 d17_1 rfl pd18 rfl rfl rfl (by decide) (W := 0) rfl (by decide) (by decide) (by decide) (by decide) (by decide) ?_
  intro v1 h1 σ1 q1
  obtain ⟨rfl, rfl, rfl⟩ := q1
  show Go κ σ h0 0 0 4 #[.val (.ref s), .val (.int (Int32.ofNat i))] [(.int (1 : Int32))]
  refine Go.ifc D (pc' := 16) (pc2 := 7) d17_4 (by decide) (by decide) rfl (fun (hc : (1 : Int32) = 0) => absurd hc (by decide)) (fun _ => ?_)
  refine Go.aloadN D (pc' := 8) d17_7 rfl rfl rfl ?_
  refine Go.getF D (pc' := 11) (hw _ (List.mem_of_getElem? (i := 40) rfl)) d17_8 rfl e3 ?_
  refine Go.iloadN D (pc' := 12) d17_11 rfl rfl ?_
  refine Go.callS D (argsL := [(.ref b), (.int (Int32.ofNat i))]) (rest := []) (pc' := 15) (ce' := 0) (sl' := 0) (con_lch l Z a0 hw h0 n0 σ b kb cs e4 S.2 i hi fm rf O4) (hw _ (List.mem_of_getElem? (i := 89) rfl)) (hw _ (List.mem_of_getElem? (i := 90) rfl)) (hw _ (List.mem_of_getElem? (i := 91) rfl)) (hw _ (List.mem_of_getElem? (i := 92) rfl)) (by decide) d17_12 rfl pd19 rfl rfl rfl (by decide) (W := 0) rfl (by decide) (by decide) (by decide) (by decide) (by decide) ?_
  intro v12 h12 σ12 q12
  obtain ⟨rfl, rfl, rfl⟩ := q12
  show Go κ σ h0 0 0 15 #[.val (.ref s), .val (.int (Int32.ofNat i))] [(.int cs[i])]
  refine Go.cret D rfl (congrArg Value.int (char_nar (S.2.1 _ (List.getElem_mem hi)))) d17_15 (by decide) (by decide) ?_
  exact ⟨rfl, rfl, rfl⟩
def TokC (c : Int32) : Prop := (¬ c < 65 ∧ ¬ 90 < c) ∨ (¬ c < 97 ∧ ¬ 122 < c) ∨ (¬ c < 48 ∧ ¬ 57 < c) ∨ c = 95 ∨ c = 46 ∨ c = 45
theorem TokC.lat {c : Int32} (h : TokC c) : ¬ c < 0 ∧ c < 256 := by
  unfold TokC at h
  simp only [Int32.lt_iff_toInt_lt, ← Int32.toInt_inj, show (65 : Int32).toInt = 65 from rfl, show (90 : Int32).toInt = 90 from rfl, show (97 : Int32).toInt = 97 from rfl, show (122 : Int32).toInt = 122 from rfl, show (48 : Int32).toInt = 48 from rfl, show (57 : Int32).toInt = 57 from rfl, show (95 : Int32).toInt = 95 from rfl, show (46 : Int32).toInt = 46 from rfl, show (45 : Int32).toInt = 45 from rfl, show (0 : Int32).toInt = 0 from rfl, show (256 : Int32).toInt = 256 from rfl] at h ⊢
  omega

def IdC (c : Int32) : Prop := ¬ c < 32 ∧ c < 256 ∧ ¬ c = 127
theorem IdC.lat {c : Int32} (h : IdC c) : ¬ c < 0 ∧ c < 256 := by
  obtain ⟨h1, h2, -⟩ := h
  refine ⟨fun q => h1 (Int32.lt_trans q (by decide)), h2⟩
theorem or_tab : ∀ i : Fin 32, (Int32.ofNat i.1 ||| 64) = Int32.ofNat (i.1 + 64) := by decide
theorem or64 {k : Int32} (h0 : 0 ≤ k.toInt) (h : k < 32) : (k ||| 64).toInt = k.toInt + 64 := by
  rw [Int32.lt_iff_toInt_lt, show (32 : Int32).toInt = 32 from rfl] at h
  have hi : k.toInt.toNat < 32 := by omega
  have hx : k = Int32.ofNat k.toInt.toNat := Int32.toInt_inj.mp (by rw [own_ti (by omega)]; omega)
  have e := or_tab ⟨k.toInt.toNat, hi⟩
  rw [← hx] at e
  rw [e, own_ti (by show k.toInt.toNat + 64 < _; omega)]
  show ((k.toInt.toNat + 64 : Nat) : Int) = _
  omega

def hshL (r : Int32) : List Int32 → Int32
  | [] => r
  | c :: cs => hshL (31 * r + c) cs
def hsh (cs : List Int32) : Int32 := hshL 0 cs
theorem hshL_drop {cs : List Int32} {i : Nat} (h : i < cs.length) (r : Int32) : hshL r (cs.drop i) = hshL (31 * r + cs[i]) (cs.drop (i + 1)) := by
  rw [List.drop_eq_getElem_cons h]; rfl
/-- the String's two notes of its sum -/
def Hst (cs : List Int32) (x z : Int32) : Prop := (x = 0 ∧ z = 0) ∨ (x = hsh cs ∧ (x = 0 → z = 1))
def HF (Z : State) (h : Heap) (s : Addr) (cs : List Int32) : Prop := ∃ x z, SH Z h s cs x z ∧ Hst cs x z
theorem HF.ext {Z : State} {h h' : Heap} {s : Addr} {cs : List Int32} (S : HF Z h s cs) (E : Ext h h') : HF Z h' s cs := by obtain ⟨x, z, a, b⟩ := S; exact ⟨x, z, a.ext E, b⟩
theorem HF.keep {Z : State} {h h' : Heap} {s t : Addr} {cs : List Int32} (S : HF Z h s cs) (K : Keep h h' [t]) (q : s ≠ t) : HF Z h' s cs := by obtain ⟨x, z, a, b⟩ := S; exact ⟨x, z, a.keep K q, b⟩
theorem SH.hf {Z : State} {h : Heap} {s : Addr} {cs : List Int32} (S : SH Z h s cs 0 0) : HF Z h s cs := ⟨0, 0, S, Or.inl ⟨rfl, rfl⟩⟩

def h3 (a b c : List Int32) : Int32 := (hsh a * 31 + hsh b) * 31 + hsh c
theorem can31 {x z : Int32} (h : 31 * x = 31 * z) : x = z := by
  have e : (3186588639 : Int32) * 31 = 1 := by decide
  have q := congrArg (fun t => (3186588639 : Int32) * t) h
  simp only [← Int32.mul_assoc, e, Int32.one_mul] at q
  exact q
def Near (r0 r1 q0 q1 t0 t1 x0 x1 y0 y1 z0 z1 : Int32) : Prop :=
  (x1 = r1 ∧ y0 = q0 ∧ y1 = q1 ∧ z0 = t0 ∧ z1 = t1) ∨ (x0 = r0 ∧ y0 = q0 ∧ y1 = q1 ∧ z0 = t0 ∧ z1 = t1) ∨ (x0 = r0 ∧ x1 = r1 ∧ y1 = q1 ∧ z0 = t0 ∧ z1 = t1) ∨ (x0 = r0 ∧ x1 = r1 ∧ y0 = q0 ∧ z0 = t0 ∧ z1 = t1) ∨ (x0 = r0 ∧ x1 = r1 ∧ y0 = q0 ∧ y1 = q1 ∧ z1 = t1) ∨ (x0 = r0 ∧ x1 = r1 ∧ y0 = q0 ∧ y1 = q1 ∧ z0 = t0)
theorem h3_val (a b c d e f : Int32) : h3 [a, b] [c, d] [e, f] = 31 * (31 * (31 * a)) + 31 * (31 * b) + 31 * (31 * c) + 31 * d + 31 * e + f := by
  simp only [h3, hsh, hshL]; grind
theorem near_hash {r0 r1 q0 q1 t0 t1 x0 x1 y0 y1 z0 z1 : Int32} (N : Near r0 r1 q0 q1 t0 t1 x0 x1 y0 y1 z0 z1) (h : h3 [r0, r1] [q0, q1] [t0, t1] = h3 [x0, x1] [y0, y1] [z0, z1]) : [r0, r1] = [x0, x1] ∧ [q0, q1] = [y0, y1] ∧ [t0, t1] = [z0, z1] := by
  rw [h3_val, h3_val] at h
  rcases N with ⟨rfl, rfl, rfl, rfl, rfl⟩ | ⟨rfl, rfl, rfl, rfl, rfl⟩ | ⟨rfl, rfl, rfl, rfl, rfl⟩ | ⟨rfl, rfl, rfl, rfl, rfl⟩ | ⟨rfl, rfl, rfl, rfl, rfl⟩ | ⟨rfl, rfl, rfl, rfl, rfl⟩
  · have e : r0 = x0 := can31 (can31 (can31 (by grind)))
    subst e; exact ⟨rfl, rfl, rfl⟩
  · have e : r1 = x1 := can31 (can31 (by grind))
    subst e; exact ⟨rfl, rfl, rfl⟩
  · have e : q0 = y0 := can31 (can31 (by grind))
    subst e; exact ⟨rfl, rfl, rfl⟩
  · have e : q1 = y1 := can31 (by grind)
    subst e; exact ⟨rfl, rfl, rfl⟩
  · have e : t0 = z0 := can31 (by grind)
    subst e; exact ⟨rfl, rfl, rfl⟩
  · have e : t1 = z1 := by grind
    subst e; exact ⟨rfl, rfl, rfl⟩

abbrev y35 : MethodName := ⟨"java/lang/StringLatin1", "equals", "([B[B)Z"⟩
theorem d35_0 : decode jdk_43_method_13_code 0 = .ok (.aload_n 0, 1) := by decide +kernel
theorem d35_1 : decode jdk_43_method_13_code 1 = .ok (.arraylength, 1) := by decide +kernel
theorem d35_2 : decode jdk_43_method_13_code 2 = .ok (.aload_n 1, 1) := by decide +kernel
theorem d35_3 : decode jdk_43_method_13_code 3 = .ok (.arraylength, 1) := by decide +kernel
theorem d35_4 : decode jdk_43_method_13_code 4 = .ok (.if_icmp .ne 30, 3) := by decide +kernel
theorem d35_7 : decode jdk_43_method_13_code 7 = .ok (.iconst 0, 1) := by decide +kernel
theorem d35_8 : decode jdk_43_method_13_code 8 = .ok (.istore_n 2, 1) := by decide +kernel
theorem d35_9 : decode jdk_43_method_13_code 9 = .ok (.iload_n 2, 1) := by decide +kernel
theorem d35_10 : decode jdk_43_method_13_code 10 = .ok (.aload_n 0, 1) := by decide +kernel
theorem d35_11 : decode jdk_43_method_13_code 11 = .ok (.arraylength, 1) := by decide +kernel
theorem d35_12 : decode jdk_43_method_13_code 12 = .ok (.if_icmp .ge 20, 3) := by decide +kernel
theorem d35_15 : decode jdk_43_method_13_code 15 = .ok (.aload_n 0, 1) := by decide +kernel
theorem d35_16 : decode jdk_43_method_13_code 16 = .ok (.iload_n 2, 1) := by decide +kernel
theorem d35_17 : decode jdk_43_method_13_code 17 = .ok (.baload, 1) := by decide +kernel
theorem d35_18 : decode jdk_43_method_13_code 18 = .ok (.aload_n 1, 1) := by decide +kernel
theorem d35_19 : decode jdk_43_method_13_code 19 = .ok (.iload_n 2, 1) := by decide +kernel
theorem d35_20 : decode jdk_43_method_13_code 20 = .ok (.baload, 1) := by decide +kernel
theorem d35_21 : decode jdk_43_method_13_code 21 = .ok (.if_icmp .eq 5, 3) := by decide +kernel
theorem d35_24 : decode jdk_43_method_13_code 24 = .ok (.iconst 0, 1) := by decide +kernel
theorem d35_25 : decode jdk_43_method_13_code 25 = .ok (.ireturn, 1) := by decide +kernel
theorem d35_26 : decode jdk_43_method_13_code 26 = .ok (.iinc 2 1, 3) := by decide +kernel
theorem d35_29 : decode jdk_43_method_13_code 29 = .ok (.goto (-20), 3) := by decide +kernel
theorem d35_32 : decode jdk_43_method_13_code 32 = .ok (.iconst 1, 1) := by decide +kernel
theorem d35_33 : decode jdk_43_method_13_code 33 = .ok (.ireturn, 1) := by decide +kernel
theorem d35_34 : decode jdk_43_method_13_code 34 = .ok (.iconst 0, 1) := by decide +kernel
theorem d35_35 : decode jdk_43_method_13_code 35 = .ok (.ireturn, 1) := by decide +kernel
theorem pd35 : parseMethodDescriptor "([B[B)Z" = some ⟨[(.array .byte), (.array .byte)], (some .boolean)⟩ := by decide +kernel
theorem pn35 : plainFor y35 = true := by first | exact plainFor_of_name (by first | (simp [plainName, overriddenIn]; done) | decide +kernel) | decide +kernel | rfl
set_option maxRecDepth 65536 in
set_option maxHeartbeats 40000000 in
theorem con_leq (l : Launch) (Z : State) (a0 : Array Value) (hw : ∀ d ∈ tables_1, d.before a0 Z = true) (h0 : Heap) (n0 : Nat) (σ : Sg) (b d : Addr) (kb kd : ClassId) (cs ds : List Int32) (B : Arv Z h0 b kb .byte (Int32.ofNat cs.length) (bv cs) (.int 0)) (D0 : Arv Z h0 d kd .byte (Int32.ofNat ds.length) (bv ds) (.int 0)) (hp : Lat cs) (hq : Lat ds) :
    Con l Z y35 jdk_43_method_13_code 3 ((some .boolean)) ({ frames := 0, cells := 0, slots := 0, locals := 0 } : Room) [] #[(.ref b), (.ref d)] σ h0 n0 (fun v h τ => h0 = h ∧ σ = τ ∧ ∃ r, v = some (.int r) ∧ ((r = 1 ∧ cs = ds) ∨ (r = 0 ∧ ¬ cs = ds))) := by
  refine Con.of_go pn35 (ls := #[.val (.ref b), .val (.ref d), .unset]) (fun m => by first | (simp [entryFrame, mkF, argsToLocals, Value.category]; done) | rfl) ?_
  intro κ D
  have hl := hp.2
  have hl2 := hq.2
  refine Go.aloadN D (pc' := 1) d35_0 rfl rfl rfl ?_
  refine Go.alen D (pc' := 2) d35_1 rfl B ?_
  refine Go.aloadN D (pc' := 3) d35_2 rfl rfl rfl ?_
  refine Go.alen D (pc' := 4) d35_3 rfl D0 ?_
  refine Go.icmp D (pc' := 34) (pc2 := 7) d35_4 (by decide) (by decide) rfl ?_ ?_
  · intro (hc4 : ¬ (Int32.ofNat cs.length) = (Int32.ofNat ds.length))
    refine Go.iconst D (pc' := 35) d35_34 rfl (v := (0 : Int32)) rfl ?_
    refine Go.zret D rfl rfl d35_35 (by decide) (by decide) ?_
    exact ⟨rfl, rfl, _, rfl, Or.inr ⟨rfl, fun z => hc4 (by rw [z])⟩⟩
  · intro (hc4 : (Int32.ofNat cs.length) = (Int32.ofNat ds.length))
    have hel : cs.length = ds.length := own_inj (by omega) (by omega) hc4
    have loop : ∀ (N i : Nat), cs.length - i = N → i ≤ cs.length → (∀ j, j < i → cs[j]? = ds[j]?) → Go κ σ h0 0 0 9 #[.val (.ref b), .val (.ref d), .val (.int (Int32.ofNat i))] [] := by
      intro N
      induction N using Nat.strongRecOn with
      | _ N ih =>
        intro i hN hi0 hsame
        refine Go.iloadN D (pc' := 10) d35_9 rfl rfl ?_
        refine Go.aloadN D (pc' := 11) d35_10 rfl rfl rfl ?_
        refine Go.alen D (pc' := 12) d35_11 rfl B ?_
        refine Go.icmp D (pc' := 32) (pc2 := 15) d35_12 (by decide) (by decide) rfl ?_ ?_
        · intro (hc12 : ¬ (Int32.ofNat i) < (Int32.ofNat cs.length))
          refine Go.iconst D (pc' := 33) d35_32 rfl (v := (1 : Int32)) rfl ?_
          refine Go.zret D rfl rfl d35_33 (by decide) (by decide) ?_
          refine ⟨rfl, rfl, _, rfl, Or.inl ⟨rfl, ?_⟩⟩
          have hi : i = cs.length := by
            have : ¬ i < cs.length := fun q => hc12 ((own_lt (by omega) (by omega)).mpr q)
            omega
          apply List.ext_getElem? fun j => ?_
          by_cases q : j < cs.length
          · exact hsame j (by omega)
          · rw [List.getElem?_eq_none (by omega), List.getElem?_eq_none (by omega)]
        · intro (hc12 : (Int32.ofNat i) < (Int32.ofNat cs.length))
          have hi : i < cs.length := (own_lt (by omega) (by omega)).mp hc12
          refine Go.aloadN D (pc' := 16) d35_15 rfl rfl rfl ?_
          refine Go.iloadN D (pc' := 17) d35_16 rfl rfl ?_
          refine Go.baload D (pc' := 18) d35_17 rfl B (own_nn (by omega)) hc12 (v := .int cs[i].toInt8.toInt32) (by rw [own_tn (by omega)]; exact bv_at hi _) ?_
          refine Go.aloadN D (pc' := 19) d35_18 rfl rfl rfl ?_
          refine Go.iloadN D (pc' := 20) d35_19 rfl rfl ?_
          refine Go.baload D (pc' := 21) d35_20 rfl D0 (own_nn (by omega)) ((own_lt (by omega) (by omega)).mpr (by omega)) (v := .int (ds[i]'(hel ▸ hi)).toInt8.toInt32) (by rw [own_tn (by omega)]; exact bv_at (hel ▸ hi) _) ?_
          refine Go.icmp D (pc' := 26) (pc2 := 24) d35_21 (by decide) (by decide) rfl ?_ ?_
          · intro (hc21 : cs[i].toInt8.toInt32 = (ds[i]'(hel ▸ hi)).toInt8.toInt32)
            refine Go.iinc D (pc' := 29) d35_26 rfl rfl (d := (1 : Int32)) rfl (ls' := #[.val (.ref b), .val (.ref d), .val (.int ((Int32.ofNat i) + (1 : Int32)))]) rfl ?_
            refine Go.goto D (pc' := 9) d35_29 (by decide) (by decide) ?_
            rw [own_succ]
            exact ih (cs.length - (i + 1)) (by omega) (i + 1) rfl (by omega) (fun j hj => (Nat.lt_or_eq_of_le (Nat.le_of_lt_succ hj)).elim (fun z => hsame j z) (fun z => by subst z; rw [List.getElem?_eq_getElem hi, List.getElem?_eq_getElem (hel ▸ hi), byte_inj (hp.1 _ (List.getElem_mem hi)) (hq.1 _ (List.getElem_mem (hel ▸ hi))) hc21]))
          · intro (hc21 : ¬ cs[i].toInt8.toInt32 = (ds[i]'(hel ▸ hi)).toInt8.toInt32)
            refine Go.iconst D (pc' := 25) d35_24 rfl (v := (0 : Int32)) rfl ?_
            refine Go.zret D rfl rfl d35_25 (by decide) (by decide) ?_
            refine ⟨rfl, rfl, _, rfl, Or.inr ⟨rfl, fun z => ?_⟩⟩
            subst z
            exact hc21 rfl
    refine Go.iconst D (pc' := 8) d35_7 rfl (v := (0 : Int32)) rfl ?_
    refine Go.istoreN D (pc' := 9) d35_8 rfl (ls' := #[.val (.ref b), .val (.ref d), .val (.int (0 : Int32))]) rfl ?_
    exact loop (cs.length - 0) 0 rfl (by omega) (fun j hj => absurd hj (Nat.not_lt_zero j))
abbrev y34 : MethodName := ⟨"java/lang/String", "equals", "(Ljava/lang/Object;)Z"⟩
theorem d34_0 : decode jdk_42_method_66_code 0 = .ok (.aload_n 0, 1) := by decide +kernel
theorem d34_1 : decode jdk_42_method_66_code 1 = .ok (.aload_n 1, 1) := by decide +kernel
theorem d34_2 : decode jdk_42_method_66_code 2 = .ok (.if_acmp .ne 5, 3) := by decide +kernel
theorem d34_5 : decode jdk_42_method_66_code 5 = .ok (.iconst 1, 1) := by decide +kernel
theorem d34_6 : decode jdk_42_method_66_code 6 = .ok (.ireturn, 1) := by decide +kernel
theorem d34_7 : decode jdk_42_method_66_code 7 = .ok (.aload_n 1, 1) := by decide +kernel
theorem d34_8 : decode jdk_42_method_66_code 8 = .ok (.instanceof 10, 3) := by decide +kernel
theorem d34_11 : decode jdk_42_method_66_code 11 = .ok (.ifCond .eq 43, 3) := by decide +kernel
theorem d34_14 : decode jdk_42_method_66_code 14 = .ok (.aload_n 1, 1) := by decide +kernel
theorem d34_15 : decode jdk_42_method_66_code 15 = .ok (.checkcast 10, 3) := by decide +kernel
theorem d34_18 : decode jdk_42_method_66_code 18 = .ok (.astore_n 2, 1) := by decide +kernel
theorem d34_19 : decode jdk_42_method_66_code 19 = .ok (.getstatic 38, 3) := by decide +kernel
theorem d34_22 : decode jdk_42_method_66_code 22 = .ok (.ifCond .eq 14, 3) := by decide +kernel
theorem d34_25 : decode jdk_42_method_66_code 25 = .ok (.aload_n 0, 1) := by decide +kernel
theorem d34_26 : decode jdk_42_method_66_code 26 = .ok (.getfield 15, 3) := by decide +kernel
theorem d34_29 : decode jdk_42_method_66_code 29 = .ok (.aload_n 2, 1) := by decide +kernel
theorem d34_30 : decode jdk_42_method_66_code 30 = .ok (.getfield 15, 3) := by decide +kernel
theorem d34_33 : decode jdk_42_method_66_code 33 = .ok (.if_icmp .ne 21, 3) := by decide +kernel
theorem d34_36 : decode jdk_42_method_66_code 36 = .ok (.aload_n 0, 1) := by decide +kernel
theorem d34_37 : decode jdk_42_method_66_code 37 = .ok (.getfield 9, 3) := by decide +kernel
theorem d34_40 : decode jdk_42_method_66_code 40 = .ok (.aload_n 2, 1) := by decide +kernel
theorem d34_41 : decode jdk_42_method_66_code 41 = .ok (.getfield 9, 3) := by decide +kernel
theorem d34_44 : decode jdk_42_method_66_code 44 = .ok (.invokestatic 541, 3) := by decide +kernel
theorem d34_47 : decode jdk_42_method_66_code 47 = .ok (.ifCond .eq 7, 3) := by decide +kernel
theorem d34_50 : decode jdk_42_method_66_code 50 = .ok (.iconst 1, 1) := by decide +kernel
theorem d34_51 : decode jdk_42_method_66_code 51 = .ok (.goto 4, 3) := by decide +kernel
theorem d34_54 : decode jdk_42_method_66_code 54 = .ok (.iconst 0, 1) := by decide +kernel
theorem d34_55 : decode jdk_42_method_66_code 55 = .ok (.ireturn, 1) := by decide +kernel
theorem pd34 : parseMethodDescriptor "(Ljava/lang/Object;)Z" = some ⟨[(.object "java/lang/Object")], (some .boolean)⟩ := by decide +kernel
theorem pn34 : plainFor y34 = true := by first | exact plainFor_of_name (by first | (simp [plainName, overriddenIn]; done) | decide +kernel) | decide +kernel | rfl
set_option maxRecDepth 65536 in
set_option maxHeartbeats 40000000 in
theorem con_seq (l : Launch) (Z : State) (a0 : Array Value) (hw : ∀ d ∈ tables_1, d.before a0 Z = true) (h0 : Heap) (n0 : Nat) (σ : Sg) (s u : Addr) (cs ds : List Int32) (S : Str Z h0 s cs) (U : Str Z h0 u ds) (cz : Int32) (hcz : ¬ cz = 0) (O2 : Sta Z Z.heap "java/lang/String" "COMPACT_STRINGS" "Z" (.int cz)) :
    Con l Z y34 jdk_42_method_66_code 3 ((some .boolean)) ({ frames := 1, cells := 0, slots := 0, locals := 14 } : Room) [] #[(.ref s), (.ref u)] σ h0 n0 (fun v h τ => h0 = h ∧ σ = τ ∧ ∃ r, v = some (.int r) ∧ ((r = 1 ∧ cs = ds) ∨ (r = 0 ∧ ¬ cs = ds))) := by
  refine Con.of_go pn34 (ls := #[.val (.ref s), .val (.ref u), .unset]) (fun m => by first | (simp [entryFrame, mkF, argsToLocals, Value.category]; done) | rfl) ?_
  intro κ D
  obtain ⟨e1, e2, b, kb, e3, e4⟩ := id S.1
  obtain ⟨f1, f2, d, kd, f3, f4⟩ := id U.1
  refine Go.aloadN D (pc' := 1) d34_0 rfl rfl rfl ?_
  refine Go.aloadN D (pc' := 2) d34_1 rfl rfl rfl ?_
  refine Go.acmpNe D (pc' := 7) (pc2 := 5) rfl rfl d34_2 (by decide) (by decide) rfl ?_ ?_
  · intro (hc2 : ¬ (.ref s : Value) = .ref u)
    refine Go.aloadN D (pc' := 8) d34_7 rfl rfl rfl ?_
    refine Go.instY D (pc' := 11) (hw _ (List.mem_of_getElem? (i := 176) rfl)) d34_8 rfl (Ins.self f1) ?_
    refine Go.ifc D (pc' := 54) (pc2 := 14) d34_11 (by decide) (by decide) rfl (fun (hc : (1 : Int32) = 0) => absurd hc (by decide)) (fun _ => ?_)
    refine Go.aloadN D (pc' := 15) d34_14 rfl rfl rfl ?_
    refine Go.castY D (pc' := 18) (hw _ (List.mem_of_getElem? (i := 176) rfl)) d34_15 rfl (Ins.self f1) ?_
    refine Go.astoreN D (pc' := 19) d34_18 rfl rfl (ls' := #[.val (.ref s), .val (.ref u), .val (.ref u)]) rfl ?_
    refine Go.getS D (pc' := 22) (hw _ (List.mem_of_getElem? (i := 26) rfl)) d34_19 rfl O2 ?_
    refine Go.ifc D (pc' := 36) (pc2 := 25) d34_22 (by decide) (by decide) rfl ?_ ?_
    · intro (hc22 : cz = 0)
      exact absurd hc22 hcz
    · intro (hc22 : ¬ cz = 0)
      refine Go.aloadN D (pc' := 26) d34_25 rfl rfl rfl ?_
      refine Go.getF D (pc' := 29) (hw _ (List.mem_of_getElem? (i := 38) rfl)) d34_26 rfl e2 ?_
      refine Go.aloadN D (pc' := 30) d34_29 rfl rfl rfl ?_
      refine Go.getF D (pc' := 33) (hw _ (List.mem_of_getElem? (i := 38) rfl)) d34_30 rfl f2 ?_
      refine Go.icmp D (pc' := 54) (pc2 := 36) d34_33 (by decide) (by decide) rfl (fun (hc : ¬ (0 : Int32) = (0 : Int32)) => absurd hc (by decide)) (fun _ => ?_)
      refine Go.aloadN D (pc' := 37) d34_36 rfl rfl rfl ?_
      refine Go.getF D (pc' := 40) (hw _ (List.mem_of_getElem? (i := 40) rfl)) d34_37 rfl e3 ?_
      refine Go.aloadN D (pc' := 41) d34_40 rfl rfl rfl ?_
      refine Go.getF D (pc' := 44) (hw _ (List.mem_of_getElem? (i := 40) rfl)) d34_41 rfl f3 ?_
      refine Go.callS D (argsL := [(.ref b), (.ref d)]) (rest := []) (pc' := 47) (ce' := 0) (sl' := 0) (con_leq l Z a0 hw h0 n0 σ b d kb kd cs ds e4 f4 S.2 U.2) (hw _ (List.mem_of_getElem? (i := 177) rfl)) (hw _ (List.mem_of_getElem? (i := 178) rfl)) (hw _ (List.mem_of_getElem? (i := 91) rfl)) (hw _ (List.mem_of_getElem? (i := 179) rfl)) (by decide) d34_44 rfl pd35 rfl rfl rfl (by decide) (W := 0) rfl (by decide) (by decide) (by decide) (by decide) (by decide) ?_
      intro v44 h1 σ44 q44
      obtain ⟨rfl, rfl, r, rfl, hr⟩ := q44
      show Go κ σ h0 0 0 47 #[.val (.ref s), .val (.ref u), .val (.ref u)] [(.int r)]
      refine Go.ifc D (pc' := 54) (pc2 := 50) d34_47 (by decide) (by decide) rfl ?_ ?_
      · intro (hc47 : r = 0)
        refine Go.iconst D (pc' := 55) d34_54 rfl (v := (0 : Int32)) rfl ?_
        refine Go.zret D rfl rfl d34_55 (by decide) (by decide) ?_
        exact ⟨rfl, rfl, _, rfl, Or.inr ⟨rfl, hr.elim (fun z => absurd hc47 (by rw [z.1]; decide)) (fun z => z.2)⟩⟩
      · intro (hc47 : ¬ r = 0)
        refine Go.iconst D (pc' := 51) d34_50 rfl (v := (1 : Int32)) rfl ?_
        refine Go.goto D (pc' := 55) d34_51 (by decide) (by decide) ?_
        refine Go.zret D rfl rfl d34_55 (by decide) (by decide) ?_
        exact ⟨rfl, rfl, _, rfl, Or.inl ⟨rfl, hr.elim (fun z => z.2) (fun z => absurd z.1 hc47)⟩⟩
  · intro (hc2 : (.ref s : Value) = .ref u)
    refine Go.iconst D (pc' := 6) d34_5 rfl (v := (1 : Int32)) rfl ?_
    refine Go.zret D rfl rfl d34_6 (by decide) (by decide) ?_
    have e : s = u := by injection hc2
    subst e
    exact ⟨rfl, rfl, _, rfl, Or.inl ⟨rfl, S.uniq U⟩⟩
abbrev y40 : MethodName := ⟨"jdk/internal/util/ArraysSupport", "signedHashCode", "(I[BII)I"⟩
theorem d40_0 : decode jdk_48_method_5_code 0 = .ok (.iload_n 2, 1) := by decide +kernel
theorem d40_1 : decode jdk_48_method_5_code 1 = .ok (.iload_n 3, 1) := by decide +kernel
theorem d40_2 : decode jdk_48_method_5_code 2 = .ok (.iadd, 1) := by decide +kernel
theorem d40_3 : decode jdk_48_method_5_code 3 = .ok (.istore 4, 2) := by decide +kernel
theorem d40_5 : decode jdk_48_method_5_code 5 = .ok (.iload_n 2, 1) := by decide +kernel
theorem d40_6 : decode jdk_48_method_5_code 6 = .ok (.istore 5, 2) := by decide +kernel
theorem d40_8 : decode jdk_48_method_5_code 8 = .ok (.iload 5, 2) := by decide +kernel
theorem d40_10 : decode jdk_48_method_5_code 10 = .ok (.iload 4, 2) := by decide +kernel
theorem d40_12 : decode jdk_48_method_5_code 12 = .ok (.if_icmp .ge 23, 3) := by decide +kernel
theorem d40_15 : decode jdk_48_method_5_code 15 = .ok (.bipush 31, 2) := by decide +kernel
theorem d40_17 : decode jdk_48_method_5_code 17 = .ok (.iload_n 0, 1) := by decide +kernel
theorem d40_18 : decode jdk_48_method_5_code 18 = .ok (.imul, 1) := by decide +kernel
theorem d40_19 : decode jdk_48_method_5_code 19 = .ok (.aload_n 1, 1) := by decide +kernel
theorem d40_20 : decode jdk_48_method_5_code 20 = .ok (.iload 5, 2) := by decide +kernel
theorem d40_22 : decode jdk_48_method_5_code 22 = .ok (.baload, 1) := by decide +kernel
theorem d40_23 : decode jdk_48_method_5_code 23 = .ok (.sipush 255, 3) := by decide +kernel
theorem d40_26 : decode jdk_48_method_5_code 26 = .ok (.iand, 1) := by decide +kernel
theorem d40_27 : decode jdk_48_method_5_code 27 = .ok (.iadd, 1) := by decide +kernel
theorem d40_28 : decode jdk_48_method_5_code 28 = .ok (.istore_n 0, 1) := by decide +kernel
theorem d40_29 : decode jdk_48_method_5_code 29 = .ok (.iinc 5 1, 3) := by decide +kernel
theorem d40_32 : decode jdk_48_method_5_code 32 = .ok (.goto (-24), 3) := by decide +kernel
theorem d40_35 : decode jdk_48_method_5_code 35 = .ok (.iload_n 0, 1) := by decide +kernel
theorem d40_36 : decode jdk_48_method_5_code 36 = .ok (.ireturn, 1) := by decide +kernel
theorem pd40 : parseMethodDescriptor "(I[BII)I" = some ⟨[.int, (.array .byte), .int, .int], (some .int)⟩ := by decide +kernel
theorem pn40 : plainFor y40 = true := by first | exact plainFor_of_name (by first | (simp [plainName, overriddenIn]; done) | decide +kernel) | decide +kernel | rfl
set_option maxRecDepth 65536 in
set_option maxHeartbeats 40000000 in
theorem con_shc (l : Launch) (Z : State) (a0 : Array Value) (hw : ∀ d ∈ tables_1, d.before a0 Z = true) (h0 : Heap) (n0 : Nat) (σ : Sg) (b : Addr) (kb : ClassId) (cs : List Int32) (B : Arv Z h0 b kb .byte (Int32.ofNat cs.length) (bv cs) (.int 0)) (hp : Lat cs) :
    Con l Z y40 jdk_48_method_5_code 6 ((some .int)) ({ frames := 0, cells := 0, slots := 0, locals := 0 } : Room) [] #[(.int (0 : Int32)), (.ref b), (.int (0 : Int32)), (.int (Int32.ofNat cs.length))] σ h0 n0 (fun v h τ => h0 = h ∧ σ = τ ∧ v = some (.int (hsh cs))) := by
  refine Con.of_go pn40 (ls := #[.val (.int (0 : Int32)), .val (.ref b), .val (.int (0 : Int32)), .val (.int (Int32.ofNat cs.length)), .unset, .unset]) (fun m => by first | (simp [entryFrame, mkF, argsToLocals, Value.category]; done) | rfl) ?_
  intro κ D
  have hl := hp.2
  have loop : ∀ (N i : Nat) (r : Int32), cs.length - i = N → i ≤ cs.length → hshL r (cs.drop i) = hsh cs → Go κ σ h0 0 0 8 #[.val (.int r), .val (.ref b), .val (.int (0 : Int32)), .val (.int (Int32.ofNat cs.length)), .val (.int (Int32.ofNat cs.length)), .val (.int (Int32.ofNat i))] [] := by
    intro N
    induction N using Nat.strongRecOn with
    | _ N ih =>
      intro i r hN hi0 hr
      refine Go.iload D (pc' := 10) d40_8 rfl rfl ?_
      refine Go.iload D (pc' := 12) d40_10 rfl rfl ?_
      refine Go.icmp D (pc' := 35) (pc2 := 15) d40_12 (by decide) (by decide) rfl ?_ ?_
      · intro (hc12 : ¬ (Int32.ofNat i) < (Int32.ofNat cs.length))
        refine Go.iloadN D (pc' := 36) d40_35 rfl rfl ?_
        refine Go.iret D rfl d40_36 (by decide) (by decide) ?_
        have hi : ¬ i < cs.length := fun q => absurd ((own_lt (by omega) (by omega)).mpr q) hc12
        refine ⟨rfl, rfl, ?_⟩
        rw [List.drop_of_length_le (by omega)] at hr
        rw [← hr]; rfl
      · intro (hc12 : (Int32.ofNat i) < (Int32.ofNat cs.length))
        refine Go.bipush D (pc' := 17) d40_15 rfl (v := (31 : Int32)) rfl ?_
        refine Go.iloadN D (pc' := 18) d40_17 rfl rfl ?_
        refine Go.imul D (pc' := 19) d40_18 rfl  ?_
        refine Go.aloadN D (pc' := 20) d40_19 rfl rfl rfl ?_
        refine Go.iload D (pc' := 22) d40_20 rfl rfl ?_
        have hi : i < cs.length := (own_lt (by omega) (by omega)).mp (by first | exact hc12 | exact Classical.not_not.mp hc12)
        refine Go.baload D (pc' := 23) d40_22 rfl B (own_nn (by omega)) ((own_lt (by omega) (by omega)).mpr hi) (v := .int cs[i].toInt8.toInt32) (by rw [own_tn (by omega)]; exact bv_at hi _) ?_
        refine Go.sipush D (pc' := 26) d40_23 rfl (v := (255 : Int32)) rfl ?_
        refine Go.iand D (pc' := 27) d40_26 rfl  ?_
        rw [byte_back (hp.1 _ (List.getElem_mem hi))]
        refine Go.iadd D (pc' := 28) d40_27 rfl  ?_
        refine Go.istoreN D (pc' := 29) d40_28 rfl (ls' := #[.val (.int (((31 : Int32) * r) + cs[i])), .val (.ref b), .val (.int (0 : Int32)), .val (.int (Int32.ofNat cs.length)), .val (.int (Int32.ofNat cs.length)), .val (.int (Int32.ofNat i))]) rfl ?_
        refine Go.iinc D (pc' := 32) d40_29 rfl rfl (d := (1 : Int32)) rfl (ls' := #[.val (.int (((31 : Int32) * r) + cs[i])), .val (.ref b), .val (.int (0 : Int32)), .val (.int (Int32.ofNat cs.length)), .val (.int (Int32.ofNat cs.length)), .val (.int ((Int32.ofNat i) + (1 : Int32)))]) rfl ?_
        refine Go.goto D (pc' := 8) d40_32 (by decide) (by decide) ?_
        rw [own_succ]
        exact ih (cs.length - (i + 1)) (by omega) (i + 1) _ rfl (by omega) (by rw [← hr, hshL_drop hi])
  refine Go.iloadN D (pc' := 1) d40_0 rfl rfl ?_
  refine Go.iloadN D (pc' := 2) d40_1 rfl rfl ?_
  refine Go.iadd D (pc' := 3) d40_2 rfl  ?_
  rw [Int32.zero_add]
  refine Go.istore D (pc' := 5) d40_3 rfl (ls' := #[.val (.int (0 : Int32)), .val (.ref b), .val (.int (0 : Int32)), .val (.int (Int32.ofNat cs.length)), .val (.int (Int32.ofNat cs.length)), .unset]) rfl ?_
  refine Go.iloadN D (pc' := 6) d40_5 rfl rfl ?_
  refine Go.istore D (pc' := 8) d40_6 rfl (ls' := #[.val (.int (0 : Int32)), .val (.ref b), .val (.int (0 : Int32)), .val (.int (Int32.ofNat cs.length)), .val (.int (Int32.ofNat cs.length)), .val (.int (0 : Int32))]) rfl ?_
  exact loop (cs.length - 0) 0 _ rfl (by omega) rfl
abbrev y39 : MethodName := ⟨"jdk/internal/util/ArraysSupport", "vectorizedHashCode", "(Ljava/lang/Object;IIII)I"⟩
theorem d39_0 : decode jdk_48_method_4_code 0 = .ok (.iload 4, 2) := by decide +kernel
theorem d39_2 : decode jdk_48_method_4_code 2 = .ok (.tableswitch 127 4 10 #[42, 55, 127, 127, 88, 101, 114], 42) := by decide +kernel
theorem d39_44 : decode jdk_48_method_4_code 44 = .ok (.iload_n 3, 1) := by decide +kernel
theorem d39_45 : decode jdk_48_method_4_code 45 = .ok (.aload_n 0, 1) := by decide +kernel
theorem d39_46 : decode jdk_48_method_4_code 46 = .ok (.checkcast 60, 3) := by decide +kernel
theorem d39_49 : decode jdk_48_method_4_code 49 = .ok (.iload_n 1, 1) := by decide +kernel
theorem d39_50 : decode jdk_48_method_4_code 50 = .ok (.iload_n 2, 1) := by decide +kernel
theorem d39_51 : decode jdk_48_method_4_code 51 = .ok (.invokestatic 62, 3) := by decide +kernel
theorem d39_54 : decode jdk_48_method_4_code 54 = .ok (.goto 103, 3) := by decide +kernel
theorem d39_157 : decode jdk_48_method_4_code 157 = .ok (.ireturn, 1) := by decide +kernel
theorem pd39 : parseMethodDescriptor "(Ljava/lang/Object;IIII)I" = some ⟨[(.object "java/lang/Object"), .int, .int, .int, .int], (some .int)⟩ := by decide +kernel
theorem pn39 : plainFor y39 = true := by first | exact plainFor_of_name (by first | (simp [plainName, overriddenIn]; done) | decide +kernel) | decide +kernel | rfl
set_option maxRecDepth 65536 in
set_option maxHeartbeats 40000000 in
theorem con_vhc (l : Launch) (Z : State) (a0 : Array Value) (hw : ∀ d ∈ tables_1, d.before a0 Z = true) (h0 : Heap) (n0 : Nat) (σ : Sg) (b : Addr) (kb : ClassId) (cs : List Int32) (B : Arv Z h0 b kb .byte (Int32.ofNat cs.length) (bv cs) (.int 0)) (hp : Lat cs) (X : Exa Z h0 b "[B") :
    Con l Z y39 jdk_48_method_4_code 5 ((some .int)) ({ frames := 1, cells := 0, slots := 0, locals := 24 } : Room) [] #[(.ref b), (.int (0 : Int32)), (.int (Int32.ofNat cs.length)), (.int (0 : Int32)), (.int (4 : Int32))] σ h0 n0 (fun v h τ => h0 = h ∧ σ = τ ∧ v = some (.int (hsh cs))) := by
  refine Con.of_go pn39 (ls := #[.val (.ref b), .val (.int (0 : Int32)), .val (.int (Int32.ofNat cs.length)), .val (.int (0 : Int32)), .val (.int (4 : Int32))]) (fun m => by first | (simp [entryFrame, mkF, argsToLocals, Value.category]; done) | rfl) ?_
  intro κ D
  refine Go.iload D (pc' := 2) d39_0 rfl rfl ?_
  refine Go.tswIn D (pc' := 44) d39_2 (by decide) (off := 42) rfl (by decide) (by decide) ?_
  refine Go.iloadN D (pc' := 45) d39_44 rfl rfl ?_
  refine Go.aloadN D (pc' := 46) d39_45 rfl rfl rfl ?_
  refine Go.castY D (pc' := 49) (hw _ (List.mem_of_getElem? (i := 201) rfl)) d39_46 rfl (Ins.self X) ?_
  refine Go.iloadN D (pc' := 50) d39_49 rfl rfl ?_
  refine Go.iloadN D (pc' := 51) d39_50 rfl rfl ?_
  refine Go.callS D (argsL := [(.int (0 : Int32)), (.ref b), (.int (0 : Int32)), (.int (Int32.ofNat cs.length))]) (rest := []) (pc' := 54) (ce' := 0) (sl' := 0) (con_shc l Z a0 hw h0 n0 σ b kb cs B hp) (hw _ (List.mem_of_getElem? (i := 202) rfl)) (hw _ (List.mem_of_getElem? (i := 203) rfl)) (hw _ (List.mem_of_getElem? (i := 199) rfl)) (hw _ (List.mem_of_getElem? (i := 204) rfl)) (by decide) d39_51 rfl pd40 rfl rfl rfl (by decide) (W := 0) rfl (by decide) (by decide) (by decide) (by decide) (by decide) ?_
  intro v51 h51 σ51 q51
  obtain ⟨rfl, rfl, rfl⟩ := q51
  show Go κ σ h0 0 0 54 #[.val (.ref b), .val (.int (0 : Int32)), .val (.int (Int32.ofNat cs.length)), .val (.int (0 : Int32)), .val (.int (4 : Int32))] [(.int (hsh cs))]
  refine Go.goto D (pc' := 157) d39_54 (by decide) (by decide) ?_
  refine Go.iret D rfl d39_157 (by decide) (by decide) ?_
  exact ⟨rfl, rfl, rfl⟩
theorem lsw_miss {n : Nat} (h : 2 ≤ n) (h2 : n < 2147483648) : (#[((0 : Int), (26 : Int)), (1, 30)] : Array (Int × Int)).find? (·.1 == (Int32.ofNat n).toInt) = none := by
  rw [own_ti h2]
  have a : ((0 : Int) == (n : Int)) = false := by simp; omega
  have b : ((1 : Int) == (n : Int)) = false := by simp; omega
  simp [a, b]
abbrev y38 : MethodName := ⟨"java/lang/StringLatin1", "hashCode", "([B)I"⟩
theorem d38_0 : decode jdk_43_method_21_code 0 = .ok (.aload_n 0, 1) := by decide +kernel
theorem d38_1 : decode jdk_43_method_21_code 1 = .ok (.arraylength, 1) := by decide +kernel
theorem d38_2 : decode jdk_43_method_21_code 2 = .ok (.lookupswitch 40 #[(0, 26), (1, 30)], 26) := by decide +kernel
theorem d38_28 : decode jdk_43_method_21_code 28 = .ok (.iconst 0, 1) := by decide +kernel
theorem d38_29 : decode jdk_43_method_21_code 29 = .ok (.goto 22, 3) := by decide +kernel
theorem d38_32 : decode jdk_43_method_21_code 32 = .ok (.aload_n 0, 1) := by decide +kernel
theorem d38_33 : decode jdk_43_method_21_code 33 = .ok (.iconst 0, 1) := by decide +kernel
theorem d38_34 : decode jdk_43_method_21_code 34 = .ok (.baload, 1) := by decide +kernel
theorem d38_35 : decode jdk_43_method_21_code 35 = .ok (.sipush 255, 3) := by decide +kernel
theorem d38_38 : decode jdk_43_method_21_code 38 = .ok (.iand, 1) := by decide +kernel
theorem d38_39 : decode jdk_43_method_21_code 39 = .ok (.goto 12, 3) := by decide +kernel
theorem d38_42 : decode jdk_43_method_21_code 42 = .ok (.aload_n 0, 1) := by decide +kernel
theorem d38_43 : decode jdk_43_method_21_code 43 = .ok (.iconst 0, 1) := by decide +kernel
theorem d38_44 : decode jdk_43_method_21_code 44 = .ok (.aload_n 0, 1) := by decide +kernel
theorem d38_45 : decode jdk_43_method_21_code 45 = .ok (.arraylength, 1) := by decide +kernel
theorem d38_46 : decode jdk_43_method_21_code 46 = .ok (.iconst 0, 1) := by decide +kernel
theorem d38_47 : decode jdk_43_method_21_code 47 = .ok (.iconst 4, 1) := by decide +kernel
theorem d38_48 : decode jdk_43_method_21_code 48 = .ok (.invokestatic 84, 3) := by decide +kernel
theorem d38_51 : decode jdk_43_method_21_code 51 = .ok (.ireturn, 1) := by decide +kernel
theorem pd38 : parseMethodDescriptor "([B)I" = some ⟨[(.array .byte)], (some .int)⟩ := by decide +kernel
theorem pn38 : plainFor y38 = true := by first | exact plainFor_of_name (by first | (simp [plainName, overriddenIn]; done) | decide +kernel) | decide +kernel | rfl
set_option maxRecDepth 65536 in
set_option maxHeartbeats 40000000 in
theorem con_lhc (l : Launch) (Z : State) (a0 : Array Value) (hw : ∀ d ∈ tables_1, d.before a0 Z = true) (h0 : Heap) (n0 : Nat) (σ : Sg) (b : Addr) (kb : ClassId) (cs : List Int32) (B : Arv Z h0 b kb .byte (Int32.ofNat cs.length) (bv cs) (.int 0)) (hp : Lat cs) (X : 2 ≤ cs.length → Exa Z h0 b "[B") :
    Con l Z y38 jdk_43_method_21_code 1 ((some .int)) ({ frames := 2, cells := 0, slots := 0, locals := 50 } : Room) [] #[(.ref b)] σ h0 n0 (fun v h τ => h0 = h ∧ σ = τ ∧ v = some (.int (hsh cs))) := by
  refine Con.of_go pn38 (ls := #[.val (.ref b)]) (fun m => by first | (simp [entryFrame, mkF, argsToLocals, Value.category]; done) | rfl) ?_
  intro κ D
  have hl := hp.2
  refine Go.aloadN D (pc' := 1) d38_0 rfl rfl rfl ?_
  refine Go.alen D (pc' := 2) d38_1 rfl B ?_
  rcases hcs : cs.length with _ | _ | m
  · skip
    obtain rfl := List.eq_nil_of_length_eq_zero hcs
    refine Go.lswHit D (pc' := 28) (a := 0) (off := 26) d38_2 (by decide) (by decide) (by decide) (by decide) ?_
    refine Go.iconst D (pc' := 29) d38_28 rfl (v := (0 : Int32)) rfl ?_
    refine Go.goto D (pc' := 51) d38_29 (by decide) (by decide) ?_
    refine Go.iret D rfl d38_51 (by decide) (by decide) ?_
    exact ⟨rfl, rfl, rfl⟩
  · skip
    obtain ⟨c0, rfl⟩ := List.length_eq_one_iff.mp hcs
    refine Go.lswHit D (pc' := 32) (a := 1) (off := 30) d38_2 (by decide) (by decide) (by decide) (by decide) ?_
    refine Go.aloadN D (pc' := 33) d38_32 rfl rfl rfl ?_
    refine Go.iconst D (pc' := 34) d38_33 rfl (v := (0 : Int32)) rfl ?_
    refine Go.baload D (pc' := 35) d38_34 rfl B (by decide) (show (0 : Int32) < Int32.ofNat 1 from by decide) (v := .int c0.toInt8.toInt32) rfl ?_
    refine Go.sipush D (pc' := 38) d38_35 rfl (v := (255 : Int32)) rfl ?_
    refine Go.iand D (pc' := 39) d38_38 rfl  ?_
    rw [byte_back (hp.1 c0 (by simp))]
    refine Go.goto D (pc' := 51) d38_39 (by decide) (by decide) ?_
    refine Go.iret D rfl d38_51 (by decide) (by decide) ?_
    exact ⟨rfl, rfl, by simp [hsh, hshL]⟩
  · skip
    have he : cs.length = m + 1 + 1 := hcs
    rw [← he]
    have hge : 2 ≤ cs.length := by rw [he]; omega
    have hX := X hge
    refine Go.lswMiss D (pc' := 42) d38_2 (by decide) (lsw_miss hge (by omega)) (by decide) (by decide) ?_
    refine Go.aloadN D (pc' := 43) d38_42 rfl rfl rfl ?_
    refine Go.iconst D (pc' := 44) d38_43 rfl (v := (0 : Int32)) rfl ?_
    refine Go.aloadN D (pc' := 45) d38_44 rfl rfl rfl ?_
    refine Go.alen D (pc' := 46) d38_45 rfl B ?_
    refine Go.iconst D (pc' := 47) d38_46 rfl (v := (0 : Int32)) rfl ?_
    refine Go.iconst D (pc' := 48) d38_47 rfl (v := (4 : Int32)) rfl ?_
    refine Go.callS D (argsL := [(.ref b), (.int (0 : Int32)), (.int (Int32.ofNat cs.length)), (.int (0 : Int32)), (.int (4 : Int32))]) (rest := []) (pc' := 51) (ce' := 0) (sl' := 0) (con_vhc l Z a0 hw h0 n0 σ b kb cs B hp hX) (hw _ (List.mem_of_getElem? (i := 197) rfl)) (hw _ (List.mem_of_getElem? (i := 198) rfl)) (hw _ (List.mem_of_getElem? (i := 199) rfl)) (hw _ (List.mem_of_getElem? (i := 200) rfl)) (by decide) d38_48 rfl pd39 rfl rfl rfl (by decide) (W := 0) rfl (by decide) (by decide) (by decide) (by decide) (by decide) ?_
    intro v48 h48 σ48 q48
    obtain ⟨rfl, rfl, rfl⟩ := q48
    show Go κ σ h0 0 0 51 #[.val (.ref b)] [(.int (hsh cs))]
    refine Go.iret D rfl d38_51 (by decide) (by decide) ?_
    exact ⟨rfl, rfl, rfl⟩
abbrev y37 : MethodName := ⟨"java/lang/String", "hashCode", "()I"⟩
theorem d37_0 : decode jdk_42_method_78_code 0 = .ok (.aload_n 0, 1) := by decide +kernel
theorem d37_1 : decode jdk_42_method_78_code 1 = .ok (.getfield 19, 3) := by decide +kernel
theorem d37_4 : decode jdk_42_method_78_code 4 = .ok (.istore_n 1, 1) := by decide +kernel
theorem d37_5 : decode jdk_42_method_78_code 5 = .ok (.iload_n 1, 1) := by decide +kernel
theorem d37_6 : decode jdk_42_method_78_code 6 = .ok (.ifCond .ne 52, 3) := by decide +kernel
theorem d37_9 : decode jdk_42_method_78_code 9 = .ok (.aload_n 0, 1) := by decide +kernel
theorem d37_10 : decode jdk_42_method_78_code 10 = .ok (.getfield 23, 3) := by decide +kernel
theorem d37_13 : decode jdk_42_method_78_code 13 = .ok (.ifCond .ne 45, 3) := by decide +kernel
theorem d37_16 : decode jdk_42_method_78_code 16 = .ok (.aload_n 0, 1) := by decide +kernel
theorem d37_17 : decode jdk_42_method_78_code 17 = .ok (.invokevirtual 492, 3) := by decide +kernel
theorem d37_20 : decode jdk_42_method_78_code 20 = .ok (.ifCond .eq 13, 3) := by decide +kernel
theorem d37_23 : decode jdk_42_method_78_code 23 = .ok (.aload_n 0, 1) := by decide +kernel
theorem d37_24 : decode jdk_42_method_78_code 24 = .ok (.getfield 9, 3) := by decide +kernel
theorem d37_27 : decode jdk_42_method_78_code 27 = .ok (.invokestatic 628, 3) := by decide +kernel
theorem d37_30 : decode jdk_42_method_78_code 30 = .ok (.goto 10, 3) := by decide +kernel
theorem d37_40 : decode jdk_42_method_78_code 40 = .ok (.istore_n 1, 1) := by decide +kernel
theorem d37_41 : decode jdk_42_method_78_code 41 = .ok (.iload_n 1, 1) := by decide +kernel
theorem d37_42 : decode jdk_42_method_78_code 42 = .ok (.ifCond .ne 11, 3) := by decide +kernel
theorem d37_45 : decode jdk_42_method_78_code 45 = .ok (.aload_n 0, 1) := by decide +kernel
theorem d37_46 : decode jdk_42_method_78_code 46 = .ok (.iconst 1, 1) := by decide +kernel
theorem d37_47 : decode jdk_42_method_78_code 47 = .ok (.putfield 23, 3) := by decide +kernel
theorem d37_50 : decode jdk_42_method_78_code 50 = .ok (.goto 8, 3) := by decide +kernel
theorem d37_53 : decode jdk_42_method_78_code 53 = .ok (.aload_n 0, 1) := by decide +kernel
theorem d37_54 : decode jdk_42_method_78_code 54 = .ok (.iload_n 1, 1) := by decide +kernel
theorem d37_55 : decode jdk_42_method_78_code 55 = .ok (.putfield 19, 3) := by decide +kernel
theorem d37_58 : decode jdk_42_method_78_code 58 = .ok (.iload_n 1, 1) := by decide +kernel
theorem d37_59 : decode jdk_42_method_78_code 59 = .ok (.ireturn, 1) := by decide +kernel
theorem pd37 : parseMethodDescriptor "()I" = some ⟨[], (some .int)⟩ := by decide +kernel
theorem pn37 : plainFor y37 = true := by first | exact plainFor_of_name (by first | (simp [plainName, overriddenIn]; done) | decide +kernel) | decide +kernel | rfl
set_option maxRecDepth 65536 in
set_option maxHeartbeats 40000000 in
theorem con_shash (l : Launch) (Z : State) (a0 : Array Value) (hw : ∀ d ∈ tables_1, d.before a0 Z = true) (h0 : Heap) (n0 : Nat) (σ : Sg) (s : Addr) (g0 : n0 ≤ s) (cs : List Int32) (S : Str Z h0 s cs) (Hf : HF Z h0 s cs) (cz : Int32) (hcz : ¬ cz = 0) (O2 : Sta Z Z.heap "java/lang/String" "COMPACT_STRINGS" "Z" (.int cz)) :
    Con l Z y37 jdk_42_method_78_code 2 ((some .int)) ({ frames := 3, cells := 0, slots := 0, locals := 65 } : Room) [] #[(.ref s)] σ h0 n0 (fun v h τ => σ = τ ∧ v = some (.int (hsh cs)) ∧ Keep h0 h [s] ∧ (∀ a y vs, SC Z h0 a y vs → SC Z h a y vs) ∧ HF Z h s cs) := by
  refine Con.of_go pn37 (ls := #[.val (.ref s), .unset]) (fun m => by first | (simp [entryFrame, mkF, argsToLocals, Value.category]; done) | rfl) ?_
  intro κ D
  obtain ⟨x, z, ⟨Hh, Hz, Hx⟩, hst⟩ := Hf
  obtain ⟨e1, e2, b, kb, e3, e4⟩ := id S.1
  have hX : 2 ≤ cs.length → Exa Z h0 b "[B" := fun q => by
    obtain ⟨b', q1, q2⟩ := Hx q
    have e : b = b' := Classical.byContradiction fun u => Fld.ne e3 q1 (fun z => u (by injection z)) rfl
    rw [e]; exact q2
  refine Go.aloadN D (pc' := 1) d37_0 rfl rfl rfl ?_
  refine Go.getF D (pc' := 4) (hw _ (List.mem_of_getElem? (i := 190) rfl)) d37_1 rfl Hh ?_
  refine Go.istoreN D (pc' := 5) d37_4 rfl (ls' := #[.val (.ref s), .val (.int x)]) rfl ?_
  refine Go.iloadN D (pc' := 6) d37_5 rfl rfl ?_
  refine Go.ifc D (pc' := 58) (pc2 := 9) d37_6 (by decide) (by decide) rfl ?_ ?_
  · intro (hc6 : ¬ x = 0)
    refine Go.iloadN D (pc' := 59) d37_58 rfl rfl ?_
    refine Go.iret D rfl d37_59 (by decide) (by decide) ?_
    obtain rfl : x = hsh cs := hst.elim (fun q => absurd q.1 hc6) (fun q => q.1)
    exact ⟨rfl, rfl, Keep.refl _ _, fun a y vs q => q, _, z, ⟨Hh, Hz, Hx⟩, hst⟩
  · intro (hc6 : x = 0)
    refine Go.aloadN D (pc' := 10) d37_9 rfl rfl rfl ?_
    refine Go.getF D (pc' := 13) (hw _ (List.mem_of_getElem? (i := 192) rfl)) d37_10 rfl Hz ?_
    refine Go.ifc D (pc' := 58) (pc2 := 16) d37_13 (by decide) (by decide) rfl ?_ ?_
    · intro (hc13 : ¬ z = 0)
      refine Go.iloadN D (pc' := 59) d37_58 rfl rfl ?_
      refine Go.iret D rfl d37_59 (by decide) (by decide) ?_
      obtain rfl : x = hsh cs := hst.elim (fun q => absurd q.2 hc13) (fun q => q.1)
      exact ⟨rfl, rfl, Keep.refl _ _, fun a y vs q => q, _, z, ⟨Hh, Hz, Hx⟩, hst⟩
    · intro (hc13 : z = 0)
      refine Go.aloadN D (pc' := 17) d37_16 rfl rfl rfl ?_
      refine Go.callV D (argsL := []) (rest := []) (pc' := 20) (ce' := 0) (sl' := 0) (con_sisl l Z a0 hw h0 n0 σ s e2 cz hcz O2) (hw _ (List.mem_of_getElem? (i := 84) rfl)) (hw _ (List.mem_of_getElem? (i := 85) rfl)) (hw _ (List.mem_of_getElem? (i := 87) rfl)) (hw _ (List.mem_of_getElem? (i := 86) rfl)) (hw _ (List.mem_of_getElem? (i := 15) rfl)) (hw _ (List.mem_of_getElem? (i := 88) rfl)) (nfS (hw _ (List.mem_of_getElem? (i := 87) rfl))) (by decide) e1 d37_17 rfl pd18 rfl rfl rfl (by decide) (W := 0) rfl (by decide) (by decide) (by decide) (by decide) (by decide) ?_
      intro v17 h17 σ17 q17
      obtain ⟨rfl, rfl, rfl⟩ := q17
      show Go κ σ h0 0 0 20 #[.val (.ref s), .val (.int x)] [(.int (1 : Int32))]
      refine Go.ifc D (pc' := 33) (pc2 := 23) d37_20 (by decide) (by decide) rfl (fun (hc : (1 : Int32) = 0) => absurd hc (by decide)) (fun _ => ?_)
      refine Go.aloadN D (pc' := 24) d37_23 rfl rfl rfl ?_
      refine Go.getF D (pc' := 27) (hw _ (List.mem_of_getElem? (i := 40) rfl)) d37_24 rfl e3 ?_
      refine Go.callS D (argsL := [(.ref b)]) (rest := []) (pc' := 30) (ce' := 0) (sl' := 0) (con_lhc l Z a0 hw h0 n0 σ b kb cs e4 S.2 hX) (hw _ (List.mem_of_getElem? (i := 194) rfl)) (hw _ (List.mem_of_getElem? (i := 195) rfl)) (hw _ (List.mem_of_getElem? (i := 91) rfl)) (hw _ (List.mem_of_getElem? (i := 196) rfl)) (by decide) d37_27 rfl pd38 rfl rfl rfl (by decide) (W := 0) rfl (by decide) (by decide) (by decide) (by decide) (by decide) ?_
      intro v27 h27 σ27 q27
      obtain ⟨rfl, rfl, rfl⟩ := q27
      show Go κ σ h0 0 0 30 #[.val (.ref s), .val (.int x)] [(.int (hsh cs))]
      refine Go.goto D (pc' := 40) d37_30 (by decide) (by decide) ?_
      refine Go.istoreN D (pc' := 41) d37_40 rfl (ls' := #[.val (.ref s), .val (.int (hsh cs))]) rfl ?_
      refine Go.iloadN D (pc' := 42) d37_41 rfl rfl ?_
      refine Go.ifc D (pc' := 53) (pc2 := 45) d37_42 (by decide) (by decide) rfl ?_ ?_
      · intro (hc42 : ¬ (hsh cs) = 0)
        refine Go.aloadN D (pc' := 54) d37_53 rfl rfl rfl ?_
        refine Go.iloadN D (pc' := 55) d37_54 rfl rfl ?_
        refine Go.putF D (pc' := 58) (hw _ (List.mem_of_getElem? (i := 190) rfl)) d37_55 rfl Hh e1 (Or.inl (hw _ (List.mem_of_getElem? (i := 191) rfl))) (hw _ (List.mem_of_getElem? (i := 14) rfl)) (ty := .int) (by decide) rfl rfl g0 ?_
        intro h1 W1
        refine Go.iloadN D (pc' := 59) d37_58 rfl rfl ?_
        refine Go.iret D rfl d37_59 (by decide) (by decide) ?_
        exact ⟨rfl, rfl, (Keep.refl _ _).wr W1 (Or.inl (by simp)), fun a y vs q => by obtain ⟨f1, f2, b', k', f3, f4⟩ := q; exact ⟨f1.wr W1, f2.other W1 (Or.inr (slot_ne (Or.inr (hw _ (List.mem_of_getElem? (i := 39) rfl))) (Or.inl (hw _ (List.mem_of_getElem? (i := 191) rfl))) (by decide) (t := .byte) (t' := .int) (by decide) (by decide))), b', k', f3.other W1 (Or.inr (slot_ne (Or.inr (hw _ (List.mem_of_getElem? (i := 41) rfl))) (Or.inl (hw _ (List.mem_of_getElem? (i := 191) rfl))) (by decide) (t := .array .byte) (t' := .int) (by decide) (by decide))), f4.other W1 (Ne.symm (Exa.neArv e1 f4 (hw _ (List.mem_of_getElem? (i := 14) rfl))))⟩, _, z, ⟨Hh.same W1, Hz.other W1 (Or.inr (slot_ne (Or.inl (hw _ (List.mem_of_getElem? (i := 193) rfl))) (Or.inl (hw _ (List.mem_of_getElem? (i := 191) rfl))) (by decide) (t := .boolean) (t' := .int) (by decide) (by decide))), fun q => ⟨b, e3.other W1 (Or.inr (slot_ne (Or.inr (hw _ (List.mem_of_getElem? (i := 41) rfl))) (Or.inl (hw _ (List.mem_of_getElem? (i := 191) rfl))) (by decide) (t := .array .byte) (t' := .int) (by decide) (by decide))), (hX q).wr W1⟩⟩, Or.inr ⟨rfl, fun q => absurd q hc42⟩⟩
      · intro (hc42 : (hsh cs) = 0)
        refine Go.aloadN D (pc' := 46) d37_45 rfl rfl rfl ?_
        refine Go.iconst D (pc' := 47) d37_46 rfl (v := (1 : Int32)) rfl ?_
        refine Go.putF D (pc' := 50) (hw _ (List.mem_of_getElem? (i := 192) rfl)) d37_47 rfl Hz e1 (Or.inl (hw _ (List.mem_of_getElem? (i := 193) rfl))) (hw _ (List.mem_of_getElem? (i := 14) rfl)) (ty := .boolean) (by decide) rfl rfl g0 ?_
        intro h1 W1
        refine Go.goto D (pc' := 58) d37_50 (by decide) (by decide) ?_
        refine Go.iloadN D (pc' := 59) d37_58 rfl rfl ?_
        refine Go.iret D rfl d37_59 (by decide) (by decide) ?_
        exact ⟨rfl, rfl, (Keep.refl _ _).wr W1 (Or.inl (by simp)), fun a y vs q => by obtain ⟨f1, f2, b', k', f3, f4⟩ := q; exact ⟨f1.wr W1, f2.other W1 (Or.inr (slot_ne (Or.inr (hw _ (List.mem_of_getElem? (i := 39) rfl))) (Or.inl (hw _ (List.mem_of_getElem? (i := 193) rfl))) (by decide) (t := .byte) (t' := .boolean) (by decide) (by decide))), b', k', f3.other W1 (Or.inr (slot_ne (Or.inr (hw _ (List.mem_of_getElem? (i := 41) rfl))) (Or.inl (hw _ (List.mem_of_getElem? (i := 193) rfl))) (by decide) (t := .array .byte) (t' := .boolean) (by decide) (by decide))), f4.other W1 (Ne.symm (Exa.neArv e1 f4 (hw _ (List.mem_of_getElem? (i := 14) rfl))))⟩, x, 1, ⟨Hh.other W1 (Or.inr (slot_ne (Or.inl (hw _ (List.mem_of_getElem? (i := 191) rfl))) (Or.inl (hw _ (List.mem_of_getElem? (i := 193) rfl))) (by decide) (t := .int) (t' := .boolean) (by decide) (by decide))), Hz.same W1, fun q => ⟨b, e3.other W1 (Or.inr (slot_ne (Or.inr (hw _ (List.mem_of_getElem? (i := 41) rfl))) (Or.inl (hw _ (List.mem_of_getElem? (i := 193) rfl))) (by decide) (t := .array .byte) (t' := .boolean) (by decide) (by decide))), (hX q).wr W1⟩⟩, Or.inr ⟨hc6.trans hc42.symm, fun _ => rfl⟩⟩
abbrev y22 : MethodName := ⟨"com/example/ticks_into_totals/ticksintototals/CounterName", "isTokenChar", "(C)Z"⟩
theorem d22_0 : decode prog_3_method_6_code 0 = .ok (.iload_n 0, 1) := by decide +kernel
theorem d22_1 : decode prog_3_method_6_code 1 = .ok (.bipush 65, 2) := by decide +kernel
theorem d22_3 : decode prog_3_method_6_code 3 = .ok (.if_icmp .lt 9, 3) := by decide +kernel
theorem d22_6 : decode prog_3_method_6_code 6 = .ok (.iload_n 0, 1) := by decide +kernel
theorem d22_7 : decode prog_3_method_6_code 7 = .ok (.bipush 90, 2) := by decide +kernel
theorem d22_9 : decode prog_3_method_6_code 9 = .ok (.if_icmp .le 45, 3) := by decide +kernel
theorem d22_12 : decode prog_3_method_6_code 12 = .ok (.iload_n 0, 1) := by decide +kernel
theorem d22_13 : decode prog_3_method_6_code 13 = .ok (.bipush 97, 2) := by decide +kernel
theorem d22_15 : decode prog_3_method_6_code 15 = .ok (.if_icmp .lt 9, 3) := by decide +kernel
theorem d22_18 : decode prog_3_method_6_code 18 = .ok (.iload_n 0, 1) := by decide +kernel
theorem d22_19 : decode prog_3_method_6_code 19 = .ok (.bipush 122, 2) := by decide +kernel
theorem d22_21 : decode prog_3_method_6_code 21 = .ok (.if_icmp .le 33, 3) := by decide +kernel
theorem d22_24 : decode prog_3_method_6_code 24 = .ok (.iload_n 0, 1) := by decide +kernel
theorem d22_25 : decode prog_3_method_6_code 25 = .ok (.bipush 48, 2) := by decide +kernel
theorem d22_27 : decode prog_3_method_6_code 27 = .ok (.if_icmp .lt 9, 3) := by decide +kernel
theorem d22_30 : decode prog_3_method_6_code 30 = .ok (.iload_n 0, 1) := by decide +kernel
theorem d22_31 : decode prog_3_method_6_code 31 = .ok (.bipush 57, 2) := by decide +kernel
theorem d22_33 : decode prog_3_method_6_code 33 = .ok (.if_icmp .le 21, 3) := by decide +kernel
theorem d22_36 : decode prog_3_method_6_code 36 = .ok (.iload_n 0, 1) := by decide +kernel
theorem d22_37 : decode prog_3_method_6_code 37 = .ok (.bipush 95, 2) := by decide +kernel
theorem d22_39 : decode prog_3_method_6_code 39 = .ok (.if_icmp .eq 15, 3) := by decide +kernel
theorem d22_42 : decode prog_3_method_6_code 42 = .ok (.iload_n 0, 1) := by decide +kernel
theorem d22_43 : decode prog_3_method_6_code 43 = .ok (.bipush 46, 2) := by decide +kernel
theorem d22_45 : decode prog_3_method_6_code 45 = .ok (.if_icmp .eq 9, 3) := by decide +kernel
theorem d22_48 : decode prog_3_method_6_code 48 = .ok (.iload_n 0, 1) := by decide +kernel
theorem d22_49 : decode prog_3_method_6_code 49 = .ok (.bipush 45, 2) := by decide +kernel
theorem d22_51 : decode prog_3_method_6_code 51 = .ok (.if_icmp .ne 7, 3) := by decide +kernel
theorem d22_54 : decode prog_3_method_6_code 54 = .ok (.iconst 1, 1) := by decide +kernel
theorem d22_55 : decode prog_3_method_6_code 55 = .ok (.goto 4, 3) := by decide +kernel
theorem d22_58 : decode prog_3_method_6_code 58 = .ok (.iconst 0, 1) := by decide +kernel
theorem d22_59 : decode prog_3_method_6_code 59 = .ok (.ireturn, 1) := by decide +kernel
theorem pd22 : parseMethodDescriptor "(C)Z" = some ⟨[.char], (some .boolean)⟩ := by decide +kernel
theorem pn22 : plainFor y22 = true := by first | exact plainFor_of_name (by first | (simp [plainName, overriddenIn]; done) | decide +kernel) | decide +kernel | rfl
set_option maxRecDepth 65536 in
set_option maxHeartbeats 40000000 in
theorem con_itc (l : Launch) (Z : State) (a0 : Array Value) (hw : ∀ d ∈ tables_1, d.before a0 Z = true) (h0 : Heap) (n0 : Nat) (σ : Sg) (c : Int32) (hc : TokC c) :
    Con l Z y22 prog_3_method_6_code 1 ((some .boolean)) ({ frames := 0, cells := 0, slots := 0, locals := 0 } : Room) [] #[(.int c)] σ h0 n0 (fun v h τ => h0 = h ∧ σ = τ ∧ v = some (.int 1)) := by
  refine Con.of_go pn22 (ls := #[.val (.int c)]) (fun m => by first | (simp [entryFrame, mkF, argsToLocals, Value.category]; done) | rfl) ?_
  intro κ D
  refine Go.iloadN D (pc' := 1) d22_0 rfl rfl ?_
  refine Go.bipush D (pc' := 3) d22_1 rfl (v := (65 : Int32)) rfl ?_
  refine Go.icmp D (pc' := 12) (pc2 := 6) d22_3 (by decide) (by decide) rfl ?_ ?_
  · intro (hc3 : c < (65 : Int32))
    refine Go.iloadN D (pc' := 13) d22_12 rfl rfl ?_
    refine Go.bipush D (pc' := 15) d22_13 rfl (v := (97 : Int32)) rfl ?_
    refine Go.icmp D (pc' := 24) (pc2 := 18) d22_15 (by decide) (by decide) rfl ?_ ?_
    · intro (hc15 : c < (97 : Int32))
      refine Go.iloadN D (pc' := 25) d22_24 rfl rfl ?_
      refine Go.bipush D (pc' := 27) d22_25 rfl (v := (48 : Int32)) rfl ?_
      refine Go.icmp D (pc' := 36) (pc2 := 30) d22_27 (by decide) (by decide) rfl ?_ ?_
      · intro (hc27 : c < (48 : Int32))
        refine Go.iloadN D (pc' := 37) d22_36 rfl rfl ?_
        refine Go.bipush D (pc' := 39) d22_37 rfl (v := (95 : Int32)) rfl ?_
        refine Go.icmp D (pc' := 54) (pc2 := 42) d22_39 (by decide) (by decide) rfl ?_ ?_
        · intro (hc39 : c = (95 : Int32))
          refine Go.iconst D (pc' := 55) d22_54 rfl (v := (1 : Int32)) rfl ?_
          refine Go.goto D (pc' := 59) d22_55 (by decide) (by decide) ?_
          refine Go.zret D rfl rfl d22_59 (by decide) (by decide) ?_
          exact ⟨rfl, rfl, rfl⟩
        · intro (hc39 : ¬ c = (95 : Int32))
          refine Go.iloadN D (pc' := 43) d22_42 rfl rfl ?_
          refine Go.bipush D (pc' := 45) d22_43 rfl (v := (46 : Int32)) rfl ?_
          refine Go.icmp D (pc' := 54) (pc2 := 48) d22_45 (by decide) (by decide) rfl ?_ ?_
          · intro (hc45 : c = (46 : Int32))
            refine Go.iconst D (pc' := 55) d22_54 rfl (v := (1 : Int32)) rfl ?_
            refine Go.goto D (pc' := 59) d22_55 (by decide) (by decide) ?_
            refine Go.zret D rfl rfl d22_59 (by decide) (by decide) ?_
            exact ⟨rfl, rfl, rfl⟩
          · intro (hc45 : ¬ c = (46 : Int32))
            refine Go.iloadN D (pc' := 49) d22_48 rfl rfl ?_
            refine Go.bipush D (pc' := 51) d22_49 rfl (v := (45 : Int32)) rfl ?_
            refine Go.icmp D (pc' := 58) (pc2 := 54) d22_51 (by decide) (by decide) rfl ?_ ?_
            · intro (hc51 : ¬ c = (45 : Int32))
              refine Go.iconst D (pc' := 59) d22_58 rfl (v := (0 : Int32)) rfl ?_
              refine Go.zret D rfl rfl d22_59 (by decide) (by decide) ?_
              exfalso
              unfold TokC at hc
              simp only [Int32.lt_iff_toInt_lt, ← Int32.toInt_inj, show (0 : Int32).toInt = 0 from rfl, show (26 : Int32).toInt = 26 from rfl, show (45 : Int32).toInt = 45 from rfl, show (46 : Int32).toInt = 46 from rfl, show (48 : Int32).toInt = 48 from rfl, show (52 : Int32).toInt = 52 from rfl, show (57 : Int32).toInt = 57 from rfl, show (62 : Int32).toInt = 62 from rfl, show (63 : Int32).toInt = 63 from rfl, show (65 : Int32).toInt = 65 from rfl, show (90 : Int32).toInt = 90 from rfl, show (95 : Int32).toInt = 95 from rfl, show (97 : Int32).toInt = 97 from rfl, show (122 : Int32).toInt = 122 from rfl, show (256 : Int32).toInt = 256 from rfl] at hc hc3 hc15 hc27 hc39 hc45 hc51
              omega
            · intro (hc51 : c = (45 : Int32))
              refine Go.iconst D (pc' := 55) d22_54 rfl (v := (1 : Int32)) rfl ?_
              refine Go.goto D (pc' := 59) d22_55 (by decide) (by decide) ?_
              refine Go.zret D rfl rfl d22_59 (by decide) (by decide) ?_
              exact ⟨rfl, rfl, rfl⟩
      · intro (hc27 : ¬ c < (48 : Int32))
        refine Go.iloadN D (pc' := 31) d22_30 rfl rfl ?_
        refine Go.bipush D (pc' := 33) d22_31 rfl (v := (57 : Int32)) rfl ?_
        refine Go.icmp D (pc' := 54) (pc2 := 36) d22_33 (by decide) (by decide) rfl ?_ ?_
        · intro (hc33 : ¬ (57 : Int32) < c)
          refine Go.iconst D (pc' := 55) d22_54 rfl (v := (1 : Int32)) rfl ?_
          refine Go.goto D (pc' := 59) d22_55 (by decide) (by decide) ?_
          refine Go.zret D rfl rfl d22_59 (by decide) (by decide) ?_
          exact ⟨rfl, rfl, rfl⟩
        · intro (hc33 : (57 : Int32) < c)
          refine Go.iloadN D (pc' := 37) d22_36 rfl rfl ?_
          refine Go.bipush D (pc' := 39) d22_37 rfl (v := (95 : Int32)) rfl ?_
          refine Go.icmp D (pc' := 54) (pc2 := 42) d22_39 (by decide) (by decide) rfl ?_ ?_
          · intro (hc39 : c = (95 : Int32))
            refine Go.iconst D (pc' := 55) d22_54 rfl (v := (1 : Int32)) rfl ?_
            refine Go.goto D (pc' := 59) d22_55 (by decide) (by decide) ?_
            refine Go.zret D rfl rfl d22_59 (by decide) (by decide) ?_
            exact ⟨rfl, rfl, rfl⟩
          · intro (hc39 : ¬ c = (95 : Int32))
            refine Go.iloadN D (pc' := 43) d22_42 rfl rfl ?_
            refine Go.bipush D (pc' := 45) d22_43 rfl (v := (46 : Int32)) rfl ?_
            refine Go.icmp D (pc' := 54) (pc2 := 48) d22_45 (by decide) (by decide) rfl ?_ ?_
            · intro (hc45 : c = (46 : Int32))
              refine Go.iconst D (pc' := 55) d22_54 rfl (v := (1 : Int32)) rfl ?_
              refine Go.goto D (pc' := 59) d22_55 (by decide) (by decide) ?_
              refine Go.zret D rfl rfl d22_59 (by decide) (by decide) ?_
              exact ⟨rfl, rfl, rfl⟩
            · intro (hc45 : ¬ c = (46 : Int32))
              refine Go.iloadN D (pc' := 49) d22_48 rfl rfl ?_
              refine Go.bipush D (pc' := 51) d22_49 rfl (v := (45 : Int32)) rfl ?_
              refine Go.icmp D (pc' := 58) (pc2 := 54) d22_51 (by decide) (by decide) rfl ?_ ?_
              · intro (hc51 : ¬ c = (45 : Int32))
                refine Go.iconst D (pc' := 59) d22_58 rfl (v := (0 : Int32)) rfl ?_
                refine Go.zret D rfl rfl d22_59 (by decide) (by decide) ?_
                exfalso
                unfold TokC at hc
                simp only [Int32.lt_iff_toInt_lt, ← Int32.toInt_inj, show (0 : Int32).toInt = 0 from rfl, show (26 : Int32).toInt = 26 from rfl, show (45 : Int32).toInt = 45 from rfl, show (46 : Int32).toInt = 46 from rfl, show (48 : Int32).toInt = 48 from rfl, show (52 : Int32).toInt = 52 from rfl, show (57 : Int32).toInt = 57 from rfl, show (62 : Int32).toInt = 62 from rfl, show (63 : Int32).toInt = 63 from rfl, show (65 : Int32).toInt = 65 from rfl, show (90 : Int32).toInt = 90 from rfl, show (95 : Int32).toInt = 95 from rfl, show (97 : Int32).toInt = 97 from rfl, show (122 : Int32).toInt = 122 from rfl, show (256 : Int32).toInt = 256 from rfl] at hc hc3 hc15 hc27 hc33 hc39 hc45 hc51
                omega
              · intro (hc51 : c = (45 : Int32))
                refine Go.iconst D (pc' := 55) d22_54 rfl (v := (1 : Int32)) rfl ?_
                refine Go.goto D (pc' := 59) d22_55 (by decide) (by decide) ?_
                refine Go.zret D rfl rfl d22_59 (by decide) (by decide) ?_
                exact ⟨rfl, rfl, rfl⟩
    · intro (hc15 : ¬ c < (97 : Int32))
      refine Go.iloadN D (pc' := 19) d22_18 rfl rfl ?_
      refine Go.bipush D (pc' := 21) d22_19 rfl (v := (122 : Int32)) rfl ?_
      refine Go.icmp D (pc' := 54) (pc2 := 24) d22_21 (by decide) (by decide) rfl ?_ ?_
      · intro (hc21 : ¬ (122 : Int32) < c)
        refine Go.iconst D (pc' := 55) d22_54 rfl (v := (1 : Int32)) rfl ?_
        refine Go.goto D (pc' := 59) d22_55 (by decide) (by decide) ?_
        refine Go.zret D rfl rfl d22_59 (by decide) (by decide) ?_
        exact ⟨rfl, rfl, rfl⟩
      · intro (hc21 : (122 : Int32) < c)
        refine Go.iloadN D (pc' := 25) d22_24 rfl rfl ?_
        refine Go.bipush D (pc' := 27) d22_25 rfl (v := (48 : Int32)) rfl ?_
        refine Go.icmp D (pc' := 36) (pc2 := 30) d22_27 (by decide) (by decide) rfl ?_ ?_
        · intro (hc27 : c < (48 : Int32))
          refine Go.iloadN D (pc' := 37) d22_36 rfl rfl ?_
          refine Go.bipush D (pc' := 39) d22_37 rfl (v := (95 : Int32)) rfl ?_
          refine Go.icmp D (pc' := 54) (pc2 := 42) d22_39 (by decide) (by decide) rfl ?_ ?_
          · intro (hc39 : c = (95 : Int32))
            refine Go.iconst D (pc' := 55) d22_54 rfl (v := (1 : Int32)) rfl ?_
            refine Go.goto D (pc' := 59) d22_55 (by decide) (by decide) ?_
            refine Go.zret D rfl rfl d22_59 (by decide) (by decide) ?_
            exact ⟨rfl, rfl, rfl⟩
          · intro (hc39 : ¬ c = (95 : Int32))
            refine Go.iloadN D (pc' := 43) d22_42 rfl rfl ?_
            refine Go.bipush D (pc' := 45) d22_43 rfl (v := (46 : Int32)) rfl ?_
            refine Go.icmp D (pc' := 54) (pc2 := 48) d22_45 (by decide) (by decide) rfl ?_ ?_
            · intro (hc45 : c = (46 : Int32))
              refine Go.iconst D (pc' := 55) d22_54 rfl (v := (1 : Int32)) rfl ?_
              refine Go.goto D (pc' := 59) d22_55 (by decide) (by decide) ?_
              refine Go.zret D rfl rfl d22_59 (by decide) (by decide) ?_
              exact ⟨rfl, rfl, rfl⟩
            · intro (hc45 : ¬ c = (46 : Int32))
              refine Go.iloadN D (pc' := 49) d22_48 rfl rfl ?_
              refine Go.bipush D (pc' := 51) d22_49 rfl (v := (45 : Int32)) rfl ?_
              refine Go.icmp D (pc' := 58) (pc2 := 54) d22_51 (by decide) (by decide) rfl ?_ ?_
              · intro (hc51 : ¬ c = (45 : Int32))
                refine Go.iconst D (pc' := 59) d22_58 rfl (v := (0 : Int32)) rfl ?_
                refine Go.zret D rfl rfl d22_59 (by decide) (by decide) ?_
                exfalso
                unfold TokC at hc
                simp only [Int32.lt_iff_toInt_lt, ← Int32.toInt_inj, show (0 : Int32).toInt = 0 from rfl, show (26 : Int32).toInt = 26 from rfl, show (45 : Int32).toInt = 45 from rfl, show (46 : Int32).toInt = 46 from rfl, show (48 : Int32).toInt = 48 from rfl, show (52 : Int32).toInt = 52 from rfl, show (57 : Int32).toInt = 57 from rfl, show (62 : Int32).toInt = 62 from rfl, show (63 : Int32).toInt = 63 from rfl, show (65 : Int32).toInt = 65 from rfl, show (90 : Int32).toInt = 90 from rfl, show (95 : Int32).toInt = 95 from rfl, show (97 : Int32).toInt = 97 from rfl, show (122 : Int32).toInt = 122 from rfl, show (256 : Int32).toInt = 256 from rfl] at hc hc3 hc15 hc21 hc27 hc39 hc45 hc51
                omega
              · intro (hc51 : c = (45 : Int32))
                refine Go.iconst D (pc' := 55) d22_54 rfl (v := (1 : Int32)) rfl ?_
                refine Go.goto D (pc' := 59) d22_55 (by decide) (by decide) ?_
                refine Go.zret D rfl rfl d22_59 (by decide) (by decide) ?_
                exact ⟨rfl, rfl, rfl⟩
        · intro (hc27 : ¬ c < (48 : Int32))
          refine Go.iloadN D (pc' := 31) d22_30 rfl rfl ?_
          refine Go.bipush D (pc' := 33) d22_31 rfl (v := (57 : Int32)) rfl ?_
          refine Go.icmp D (pc' := 54) (pc2 := 36) d22_33 (by decide) (by decide) rfl ?_ ?_
          · intro (hc33 : ¬ (57 : Int32) < c)
            refine Go.iconst D (pc' := 55) d22_54 rfl (v := (1 : Int32)) rfl ?_
            refine Go.goto D (pc' := 59) d22_55 (by decide) (by decide) ?_
            refine Go.zret D rfl rfl d22_59 (by decide) (by decide) ?_
            exact ⟨rfl, rfl, rfl⟩
          · intro (hc33 : (57 : Int32) < c)
            refine Go.iloadN D (pc' := 37) d22_36 rfl rfl ?_
            refine Go.bipush D (pc' := 39) d22_37 rfl (v := (95 : Int32)) rfl ?_
            refine Go.icmp D (pc' := 54) (pc2 := 42) d22_39 (by decide) (by decide) rfl ?_ ?_
            · intro (hc39 : c = (95 : Int32))
              refine Go.iconst D (pc' := 55) d22_54 rfl (v := (1 : Int32)) rfl ?_
              refine Go.goto D (pc' := 59) d22_55 (by decide) (by decide) ?_
              refine Go.zret D rfl rfl d22_59 (by decide) (by decide) ?_
              exact ⟨rfl, rfl, rfl⟩
            · intro (hc39 : ¬ c = (95 : Int32))
              refine Go.iloadN D (pc' := 43) d22_42 rfl rfl ?_
              refine Go.bipush D (pc' := 45) d22_43 rfl (v := (46 : Int32)) rfl ?_
              refine Go.icmp D (pc' := 54) (pc2 := 48) d22_45 (by decide) (by decide) rfl ?_ ?_
              · intro (hc45 : c = (46 : Int32))
                refine Go.iconst D (pc' := 55) d22_54 rfl (v := (1 : Int32)) rfl ?_
                refine Go.goto D (pc' := 59) d22_55 (by decide) (by decide) ?_
                refine Go.zret D rfl rfl d22_59 (by decide) (by decide) ?_
                exact ⟨rfl, rfl, rfl⟩
              · intro (hc45 : ¬ c = (46 : Int32))
                refine Go.iloadN D (pc' := 49) d22_48 rfl rfl ?_
                refine Go.bipush D (pc' := 51) d22_49 rfl (v := (45 : Int32)) rfl ?_
                refine Go.icmp D (pc' := 58) (pc2 := 54) d22_51 (by decide) (by decide) rfl ?_ ?_
                · intro (hc51 : ¬ c = (45 : Int32))
                  refine Go.iconst D (pc' := 59) d22_58 rfl (v := (0 : Int32)) rfl ?_
                  refine Go.zret D rfl rfl d22_59 (by decide) (by decide) ?_
                  exfalso
                  unfold TokC at hc
                  simp only [Int32.lt_iff_toInt_lt, ← Int32.toInt_inj, show (0 : Int32).toInt = 0 from rfl, show (26 : Int32).toInt = 26 from rfl, show (45 : Int32).toInt = 45 from rfl, show (46 : Int32).toInt = 46 from rfl, show (48 : Int32).toInt = 48 from rfl, show (52 : Int32).toInt = 52 from rfl, show (57 : Int32).toInt = 57 from rfl, show (62 : Int32).toInt = 62 from rfl, show (63 : Int32).toInt = 63 from rfl, show (65 : Int32).toInt = 65 from rfl, show (90 : Int32).toInt = 90 from rfl, show (95 : Int32).toInt = 95 from rfl, show (97 : Int32).toInt = 97 from rfl, show (122 : Int32).toInt = 122 from rfl, show (256 : Int32).toInt = 256 from rfl] at hc hc3 hc15 hc21 hc27 hc33 hc39 hc45 hc51
                  omega
                · intro (hc51 : c = (45 : Int32))
                  refine Go.iconst D (pc' := 55) d22_54 rfl (v := (1 : Int32)) rfl ?_
                  refine Go.goto D (pc' := 59) d22_55 (by decide) (by decide) ?_
                  refine Go.zret D rfl rfl d22_59 (by decide) (by decide) ?_
                  exact ⟨rfl, rfl, rfl⟩
  · intro (hc3 : ¬ c < (65 : Int32))
    refine Go.iloadN D (pc' := 7) d22_6 rfl rfl ?_
    refine Go.bipush D (pc' := 9) d22_7 rfl (v := (90 : Int32)) rfl ?_
    refine Go.icmp D (pc' := 54) (pc2 := 12) d22_9 (by decide) (by decide) rfl ?_ ?_
    · intro (hc9 : ¬ (90 : Int32) < c)
      refine Go.iconst D (pc' := 55) d22_54 rfl (v := (1 : Int32)) rfl ?_
      refine Go.goto D (pc' := 59) d22_55 (by decide) (by decide) ?_
      refine Go.zret D rfl rfl d22_59 (by decide) (by decide) ?_
      exact ⟨rfl, rfl, rfl⟩
    · intro (hc9 : (90 : Int32) < c)
      refine Go.iloadN D (pc' := 13) d22_12 rfl rfl ?_
      refine Go.bipush D (pc' := 15) d22_13 rfl (v := (97 : Int32)) rfl ?_
      refine Go.icmp D (pc' := 24) (pc2 := 18) d22_15 (by decide) (by decide) rfl ?_ ?_
      · intro (hc15 : c < (97 : Int32))
        refine Go.iloadN D (pc' := 25) d22_24 rfl rfl ?_
        refine Go.bipush D (pc' := 27) d22_25 rfl (v := (48 : Int32)) rfl ?_
        refine Go.icmp D (pc' := 36) (pc2 := 30) d22_27 (by decide) (by decide) rfl ?_ ?_
        · intro (hc27 : c < (48 : Int32))
          refine Go.iloadN D (pc' := 37) d22_36 rfl rfl ?_
          refine Go.bipush D (pc' := 39) d22_37 rfl (v := (95 : Int32)) rfl ?_
          refine Go.icmp D (pc' := 54) (pc2 := 42) d22_39 (by decide) (by decide) rfl ?_ ?_
          · intro (hc39 : c = (95 : Int32))
            refine Go.iconst D (pc' := 55) d22_54 rfl (v := (1 : Int32)) rfl ?_
            refine Go.goto D (pc' := 59) d22_55 (by decide) (by decide) ?_
            refine Go.zret D rfl rfl d22_59 (by decide) (by decide) ?_
            exact ⟨rfl, rfl, rfl⟩
          · intro (hc39 : ¬ c = (95 : Int32))
            refine Go.iloadN D (pc' := 43) d22_42 rfl rfl ?_
            refine Go.bipush D (pc' := 45) d22_43 rfl (v := (46 : Int32)) rfl ?_
            refine Go.icmp D (pc' := 54) (pc2 := 48) d22_45 (by decide) (by decide) rfl ?_ ?_
            · intro (hc45 : c = (46 : Int32))
              refine Go.iconst D (pc' := 55) d22_54 rfl (v := (1 : Int32)) rfl ?_
              refine Go.goto D (pc' := 59) d22_55 (by decide) (by decide) ?_
              refine Go.zret D rfl rfl d22_59 (by decide) (by decide) ?_
              exact ⟨rfl, rfl, rfl⟩
            · intro (hc45 : ¬ c = (46 : Int32))
              refine Go.iloadN D (pc' := 49) d22_48 rfl rfl ?_
              refine Go.bipush D (pc' := 51) d22_49 rfl (v := (45 : Int32)) rfl ?_
              refine Go.icmp D (pc' := 58) (pc2 := 54) d22_51 (by decide) (by decide) rfl ?_ ?_
              · intro (hc51 : ¬ c = (45 : Int32))
                refine Go.iconst D (pc' := 59) d22_58 rfl (v := (0 : Int32)) rfl ?_
                refine Go.zret D rfl rfl d22_59 (by decide) (by decide) ?_
                exfalso
                unfold TokC at hc
                simp only [Int32.lt_iff_toInt_lt, ← Int32.toInt_inj, show (0 : Int32).toInt = 0 from rfl, show (26 : Int32).toInt = 26 from rfl, show (45 : Int32).toInt = 45 from rfl, show (46 : Int32).toInt = 46 from rfl, show (48 : Int32).toInt = 48 from rfl, show (52 : Int32).toInt = 52 from rfl, show (57 : Int32).toInt = 57 from rfl, show (62 : Int32).toInt = 62 from rfl, show (63 : Int32).toInt = 63 from rfl, show (65 : Int32).toInt = 65 from rfl, show (90 : Int32).toInt = 90 from rfl, show (95 : Int32).toInt = 95 from rfl, show (97 : Int32).toInt = 97 from rfl, show (122 : Int32).toInt = 122 from rfl, show (256 : Int32).toInt = 256 from rfl] at hc hc3 hc9 hc15 hc27 hc39 hc45 hc51
                omega
              · intro (hc51 : c = (45 : Int32))
                refine Go.iconst D (pc' := 55) d22_54 rfl (v := (1 : Int32)) rfl ?_
                refine Go.goto D (pc' := 59) d22_55 (by decide) (by decide) ?_
                refine Go.zret D rfl rfl d22_59 (by decide) (by decide) ?_
                exact ⟨rfl, rfl, rfl⟩
        · intro (hc27 : ¬ c < (48 : Int32))
          refine Go.iloadN D (pc' := 31) d22_30 rfl rfl ?_
          refine Go.bipush D (pc' := 33) d22_31 rfl (v := (57 : Int32)) rfl ?_
          refine Go.icmp D (pc' := 54) (pc2 := 36) d22_33 (by decide) (by decide) rfl ?_ ?_
          · intro (hc33 : ¬ (57 : Int32) < c)
            refine Go.iconst D (pc' := 55) d22_54 rfl (v := (1 : Int32)) rfl ?_
            refine Go.goto D (pc' := 59) d22_55 (by decide) (by decide) ?_
            refine Go.zret D rfl rfl d22_59 (by decide) (by decide) ?_
            exact ⟨rfl, rfl, rfl⟩
          · intro (hc33 : (57 : Int32) < c)
            refine Go.iloadN D (pc' := 37) d22_36 rfl rfl ?_
            refine Go.bipush D (pc' := 39) d22_37 rfl (v := (95 : Int32)) rfl ?_
            refine Go.icmp D (pc' := 54) (pc2 := 42) d22_39 (by decide) (by decide) rfl ?_ ?_
            · intro (hc39 : c = (95 : Int32))
              refine Go.iconst D (pc' := 55) d22_54 rfl (v := (1 : Int32)) rfl ?_
              refine Go.goto D (pc' := 59) d22_55 (by decide) (by decide) ?_
              refine Go.zret D rfl rfl d22_59 (by decide) (by decide) ?_
              exact ⟨rfl, rfl, rfl⟩
            · intro (hc39 : ¬ c = (95 : Int32))
              refine Go.iloadN D (pc' := 43) d22_42 rfl rfl ?_
              refine Go.bipush D (pc' := 45) d22_43 rfl (v := (46 : Int32)) rfl ?_
              refine Go.icmp D (pc' := 54) (pc2 := 48) d22_45 (by decide) (by decide) rfl ?_ ?_
              · intro (hc45 : c = (46 : Int32))
                refine Go.iconst D (pc' := 55) d22_54 rfl (v := (1 : Int32)) rfl ?_
                refine Go.goto D (pc' := 59) d22_55 (by decide) (by decide) ?_
                refine Go.zret D rfl rfl d22_59 (by decide) (by decide) ?_
                exact ⟨rfl, rfl, rfl⟩
              · intro (hc45 : ¬ c = (46 : Int32))
                refine Go.iloadN D (pc' := 49) d22_48 rfl rfl ?_
                refine Go.bipush D (pc' := 51) d22_49 rfl (v := (45 : Int32)) rfl ?_
                refine Go.icmp D (pc' := 58) (pc2 := 54) d22_51 (by decide) (by decide) rfl ?_ ?_
                · intro (hc51 : ¬ c = (45 : Int32))
                  refine Go.iconst D (pc' := 59) d22_58 rfl (v := (0 : Int32)) rfl ?_
                  refine Go.zret D rfl rfl d22_59 (by decide) (by decide) ?_
                  exfalso
                  unfold TokC at hc
                  simp only [Int32.lt_iff_toInt_lt, ← Int32.toInt_inj, show (0 : Int32).toInt = 0 from rfl, show (26 : Int32).toInt = 26 from rfl, show (45 : Int32).toInt = 45 from rfl, show (46 : Int32).toInt = 46 from rfl, show (48 : Int32).toInt = 48 from rfl, show (52 : Int32).toInt = 52 from rfl, show (57 : Int32).toInt = 57 from rfl, show (62 : Int32).toInt = 62 from rfl, show (63 : Int32).toInt = 63 from rfl, show (65 : Int32).toInt = 65 from rfl, show (90 : Int32).toInt = 90 from rfl, show (95 : Int32).toInt = 95 from rfl, show (97 : Int32).toInt = 97 from rfl, show (122 : Int32).toInt = 122 from rfl, show (256 : Int32).toInt = 256 from rfl] at hc hc3 hc9 hc15 hc27 hc33 hc39 hc45 hc51
                  omega
                · intro (hc51 : c = (45 : Int32))
                  refine Go.iconst D (pc' := 55) d22_54 rfl (v := (1 : Int32)) rfl ?_
                  refine Go.goto D (pc' := 59) d22_55 (by decide) (by decide) ?_
                  refine Go.zret D rfl rfl d22_59 (by decide) (by decide) ?_
                  exact ⟨rfl, rfl, rfl⟩
      · intro (hc15 : ¬ c < (97 : Int32))
        refine Go.iloadN D (pc' := 19) d22_18 rfl rfl ?_
        refine Go.bipush D (pc' := 21) d22_19 rfl (v := (122 : Int32)) rfl ?_
        refine Go.icmp D (pc' := 54) (pc2 := 24) d22_21 (by decide) (by decide) rfl ?_ ?_
        · intro (hc21 : ¬ (122 : Int32) < c)
          refine Go.iconst D (pc' := 55) d22_54 rfl (v := (1 : Int32)) rfl ?_
          refine Go.goto D (pc' := 59) d22_55 (by decide) (by decide) ?_
          refine Go.zret D rfl rfl d22_59 (by decide) (by decide) ?_
          exact ⟨rfl, rfl, rfl⟩
        · intro (hc21 : (122 : Int32) < c)
          refine Go.iloadN D (pc' := 25) d22_24 rfl rfl ?_
          refine Go.bipush D (pc' := 27) d22_25 rfl (v := (48 : Int32)) rfl ?_
          refine Go.icmp D (pc' := 36) (pc2 := 30) d22_27 (by decide) (by decide) rfl ?_ ?_
          · intro (hc27 : c < (48 : Int32))
            refine Go.iloadN D (pc' := 37) d22_36 rfl rfl ?_
            refine Go.bipush D (pc' := 39) d22_37 rfl (v := (95 : Int32)) rfl ?_
            refine Go.icmp D (pc' := 54) (pc2 := 42) d22_39 (by decide) (by decide) rfl ?_ ?_
            · intro (hc39 : c = (95 : Int32))
              refine Go.iconst D (pc' := 55) d22_54 rfl (v := (1 : Int32)) rfl ?_
              refine Go.goto D (pc' := 59) d22_55 (by decide) (by decide) ?_
              refine Go.zret D rfl rfl d22_59 (by decide) (by decide) ?_
              exact ⟨rfl, rfl, rfl⟩
            · intro (hc39 : ¬ c = (95 : Int32))
              refine Go.iloadN D (pc' := 43) d22_42 rfl rfl ?_
              refine Go.bipush D (pc' := 45) d22_43 rfl (v := (46 : Int32)) rfl ?_
              refine Go.icmp D (pc' := 54) (pc2 := 48) d22_45 (by decide) (by decide) rfl ?_ ?_
              · intro (hc45 : c = (46 : Int32))
                refine Go.iconst D (pc' := 55) d22_54 rfl (v := (1 : Int32)) rfl ?_
                refine Go.goto D (pc' := 59) d22_55 (by decide) (by decide) ?_
                refine Go.zret D rfl rfl d22_59 (by decide) (by decide) ?_
                exact ⟨rfl, rfl, rfl⟩
              · intro (hc45 : ¬ c = (46 : Int32))
                refine Go.iloadN D (pc' := 49) d22_48 rfl rfl ?_
                refine Go.bipush D (pc' := 51) d22_49 rfl (v := (45 : Int32)) rfl ?_
                refine Go.icmp D (pc' := 58) (pc2 := 54) d22_51 (by decide) (by decide) rfl ?_ ?_
                · intro (hc51 : ¬ c = (45 : Int32))
                  refine Go.iconst D (pc' := 59) d22_58 rfl (v := (0 : Int32)) rfl ?_
                  refine Go.zret D rfl rfl d22_59 (by decide) (by decide) ?_
                  exfalso
                  unfold TokC at hc
                  simp only [Int32.lt_iff_toInt_lt, ← Int32.toInt_inj, show (0 : Int32).toInt = 0 from rfl, show (26 : Int32).toInt = 26 from rfl, show (45 : Int32).toInt = 45 from rfl, show (46 : Int32).toInt = 46 from rfl, show (48 : Int32).toInt = 48 from rfl, show (52 : Int32).toInt = 52 from rfl, show (57 : Int32).toInt = 57 from rfl, show (62 : Int32).toInt = 62 from rfl, show (63 : Int32).toInt = 63 from rfl, show (65 : Int32).toInt = 65 from rfl, show (90 : Int32).toInt = 90 from rfl, show (95 : Int32).toInt = 95 from rfl, show (97 : Int32).toInt = 97 from rfl, show (122 : Int32).toInt = 122 from rfl, show (256 : Int32).toInt = 256 from rfl] at hc hc3 hc9 hc15 hc21 hc27 hc39 hc45 hc51
                  omega
                · intro (hc51 : c = (45 : Int32))
                  refine Go.iconst D (pc' := 55) d22_54 rfl (v := (1 : Int32)) rfl ?_
                  refine Go.goto D (pc' := 59) d22_55 (by decide) (by decide) ?_
                  refine Go.zret D rfl rfl d22_59 (by decide) (by decide) ?_
                  exact ⟨rfl, rfl, rfl⟩
          · intro (hc27 : ¬ c < (48 : Int32))
            refine Go.iloadN D (pc' := 31) d22_30 rfl rfl ?_
            refine Go.bipush D (pc' := 33) d22_31 rfl (v := (57 : Int32)) rfl ?_
            refine Go.icmp D (pc' := 54) (pc2 := 36) d22_33 (by decide) (by decide) rfl ?_ ?_
            · intro (hc33 : ¬ (57 : Int32) < c)
              refine Go.iconst D (pc' := 55) d22_54 rfl (v := (1 : Int32)) rfl ?_
              refine Go.goto D (pc' := 59) d22_55 (by decide) (by decide) ?_
              refine Go.zret D rfl rfl d22_59 (by decide) (by decide) ?_
              exact ⟨rfl, rfl, rfl⟩
            · intro (hc33 : (57 : Int32) < c)
              refine Go.iloadN D (pc' := 37) d22_36 rfl rfl ?_
              refine Go.bipush D (pc' := 39) d22_37 rfl (v := (95 : Int32)) rfl ?_
              refine Go.icmp D (pc' := 54) (pc2 := 42) d22_39 (by decide) (by decide) rfl ?_ ?_
              · intro (hc39 : c = (95 : Int32))
                refine Go.iconst D (pc' := 55) d22_54 rfl (v := (1 : Int32)) rfl ?_
                refine Go.goto D (pc' := 59) d22_55 (by decide) (by decide) ?_
                refine Go.zret D rfl rfl d22_59 (by decide) (by decide) ?_
                exact ⟨rfl, rfl, rfl⟩
              · intro (hc39 : ¬ c = (95 : Int32))
                refine Go.iloadN D (pc' := 43) d22_42 rfl rfl ?_
                refine Go.bipush D (pc' := 45) d22_43 rfl (v := (46 : Int32)) rfl ?_
                refine Go.icmp D (pc' := 54) (pc2 := 48) d22_45 (by decide) (by decide) rfl ?_ ?_
                · intro (hc45 : c = (46 : Int32))
                  refine Go.iconst D (pc' := 55) d22_54 rfl (v := (1 : Int32)) rfl ?_
                  refine Go.goto D (pc' := 59) d22_55 (by decide) (by decide) ?_
                  refine Go.zret D rfl rfl d22_59 (by decide) (by decide) ?_
                  exact ⟨rfl, rfl, rfl⟩
                · intro (hc45 : ¬ c = (46 : Int32))
                  refine Go.iloadN D (pc' := 49) d22_48 rfl rfl ?_
                  refine Go.bipush D (pc' := 51) d22_49 rfl (v := (45 : Int32)) rfl ?_
                  refine Go.icmp D (pc' := 58) (pc2 := 54) d22_51 (by decide) (by decide) rfl ?_ ?_
                  · intro (hc51 : ¬ c = (45 : Int32))
                    refine Go.iconst D (pc' := 59) d22_58 rfl (v := (0 : Int32)) rfl ?_
                    refine Go.zret D rfl rfl d22_59 (by decide) (by decide) ?_
                    exfalso
                    unfold TokC at hc
                    simp only [Int32.lt_iff_toInt_lt, ← Int32.toInt_inj, show (0 : Int32).toInt = 0 from rfl, show (26 : Int32).toInt = 26 from rfl, show (45 : Int32).toInt = 45 from rfl, show (46 : Int32).toInt = 46 from rfl, show (48 : Int32).toInt = 48 from rfl, show (52 : Int32).toInt = 52 from rfl, show (57 : Int32).toInt = 57 from rfl, show (62 : Int32).toInt = 62 from rfl, show (63 : Int32).toInt = 63 from rfl, show (65 : Int32).toInt = 65 from rfl, show (90 : Int32).toInt = 90 from rfl, show (95 : Int32).toInt = 95 from rfl, show (97 : Int32).toInt = 97 from rfl, show (122 : Int32).toInt = 122 from rfl, show (256 : Int32).toInt = 256 from rfl] at hc hc3 hc9 hc15 hc21 hc27 hc33 hc39 hc45 hc51
                    omega
                  · intro (hc51 : c = (45 : Int32))
                    refine Go.iconst D (pc' := 55) d22_54 rfl (v := (1 : Int32)) rfl ?_
                    refine Go.goto D (pc' := 59) d22_55 (by decide) (by decide) ?_
                    refine Go.zret D rfl rfl d22_59 (by decide) (by decide) ?_
                    exact ⟨rfl, rfl, rfl⟩
abbrev y16 : MethodName := ⟨"com/example/ticks_into_totals/ticksintototals/CounterName", "isToken", "(Ljava/lang/String;)Z"⟩
theorem d16_0 : decode prog_3_method_5_code 0 = .ok (.iconst 0, 1) := by decide +kernel
theorem d16_1 : decode prog_3_method_5_code 1 = .ok (.istore_n 1, 1) := by decide +kernel
theorem d16_2 : decode prog_3_method_5_code 2 = .ok (.iload_n 1, 1) := by decide +kernel
theorem d16_3 : decode prog_3_method_5_code 3 = .ok (.aload_n 0, 1) := by decide +kernel
theorem d16_4 : decode prog_3_method_5_code 4 = .ok (.invokevirtual 49, 3) := by decide +kernel
theorem d16_7 : decode prog_3_method_5_code 7 = .ok (.if_icmp .ge 22, 3) := by decide +kernel
theorem d16_10 : decode prog_3_method_5_code 10 = .ok (.aload_n 0, 1) := by decide +kernel
theorem d16_11 : decode prog_3_method_5_code 11 = .ok (.iload_n 1, 1) := by decide +kernel
theorem d16_12 : decode prog_3_method_5_code 12 = .ok (.invokevirtual 75, 3) := by decide +kernel
theorem d16_15 : decode prog_3_method_5_code 15 = .ok (.invokestatic 79, 3) := by decide +kernel
theorem d16_18 : decode prog_3_method_5_code 18 = .ok (.ifCond .ne 5, 3) := by decide +kernel
theorem d16_21 : decode prog_3_method_5_code 21 = .ok (.iconst 0, 1) := by decide +kernel
theorem d16_22 : decode prog_3_method_5_code 22 = .ok (.ireturn, 1) := by decide +kernel
theorem d16_23 : decode prog_3_method_5_code 23 = .ok (.iinc 1 1, 3) := by decide +kernel
theorem d16_26 : decode prog_3_method_5_code 26 = .ok (.goto (-24), 3) := by decide +kernel
theorem d16_29 : decode prog_3_method_5_code 29 = .ok (.iconst 1, 1) := by decide +kernel
theorem d16_30 : decode prog_3_method_5_code 30 = .ok (.ireturn, 1) := by decide +kernel
theorem pd16 : parseMethodDescriptor "(Ljava/lang/String;)Z" = some ⟨[(.object "java/lang/String")], (some .boolean)⟩ := by decide +kernel
theorem pn16 : plainFor y16 = true := by first | exact plainFor_of_name (by first | (simp [plainName, overriddenIn]; done) | decide +kernel) | decide +kernel | rfl
set_option maxRecDepth 65536 in
set_option maxHeartbeats 40000000 in
theorem con_isTok (l : Launch) (Z : State) (a0 : Array Value) (hw : ∀ d ∈ tables_1, d.before a0 Z = true) (h0 : Heap) (n0 : Nat) (σ : Sg) (s : Addr) (cs : List Int32) (S : Str Z h0 s cs) (ht : ∀ c ∈ cs, TokC c) (cz : Int32) (hcz : ¬ cz = 0) (O2 : Sta Z Z.heap "java/lang/String" "COMPACT_STRINGS" "Z" (.int cz)) (fm : Value) (rf : fm.isRef = true) (O4 : Sta Z Z.heap "jdk/internal/util/Preconditions" "SIOOBE_FORMATTER" "Ljava/util/function/BiFunction;" fm) :
    Con l Z y16 prog_3_method_5_code 2 ((some .boolean)) ({ frames := 4, cells := 0, slots := 0, locals := 60 } : Room) [] #[(.ref s)] σ h0 n0 (fun v h τ => h0 = h ∧ σ = τ ∧ v = some (.int 1)) := by
  refine Con.of_go pn16 (ls := #[.val (.ref s), .unset]) (fun m => by first | (simp [entryFrame, mkF, argsToLocals, Value.category]; done) | rfl) ?_
  intro κ D
  have hl := S.2.2
  have loop : ∀ (N i : Nat), cs.length - i = N → i ≤ cs.length → Go κ σ h0 0 0 2 #[.val (.ref s), .val (.int (Int32.ofNat i))] [] := by
    intro N
    induction N using Nat.strongRecOn with
    | _ N ih =>
      intro i hN hi0
      refine Go.iloadN D (pc' := 3) d16_2 rfl rfl ?_
      refine Go.aloadN D (pc' := 4) d16_3 rfl rfl rfl ?_
      refine Go.callV D (argsL := []) (rest := [(.int (Int32.ofNat i))]) (pc' := 7) (ce' := 0) (sl' := 0) (con_slen l Z a0 hw h0 n0 σ s cs S cz hcz O2) (hw _ (List.mem_of_getElem? (i := 66) rfl)) (hw _ (List.mem_of_getElem? (i := 67) rfl)) (hw _ (List.mem_of_getElem? (i := 69) rfl)) (hw _ (List.mem_of_getElem? (i := 68) rfl)) (hw _ (List.mem_of_getElem? (i := 15) rfl)) (hw _ (List.mem_of_getElem? (i := 70) rfl)) (nfS (hw _ (List.mem_of_getElem? (i := 69) rfl))) (by decide) S.1.1 d16_4 rfl pd14 rfl rfl rfl (by decide) (W := 1) rfl (by decide) (by decide) (by decide) (by decide) (by decide) ?_
      intro v4 h4 σ4 q4
      obtain ⟨rfl, rfl, rfl⟩ := q4
      show Go κ σ h0 0 0 7 #[.val (.ref s), .val (.int (Int32.ofNat i))] [(.int (Int32.ofNat cs.length)), (.int (Int32.ofNat i))]
      refine Go.icmp D (pc' := 29) (pc2 := 10) d16_7 (by decide) (by decide) rfl ?_ ?_
      · intro (hc7 : ¬ (Int32.ofNat i) < (Int32.ofNat cs.length))
        refine Go.iconst D (pc' := 30) d16_29 rfl (v := (1 : Int32)) rfl ?_
        refine Go.zret D rfl rfl d16_30 (by decide) (by decide) ?_
        exact ⟨rfl, rfl, rfl⟩
      · intro (hc7 : (Int32.ofNat i) < (Int32.ofNat cs.length))
        have hi : i < cs.length := (own_lt (by omega) (by omega)).mp hc7
        refine Go.aloadN D (pc' := 11) d16_10 rfl rfl rfl ?_
        refine Go.iloadN D (pc' := 12) d16_11 rfl rfl ?_
        refine Go.callV D (argsL := [(.int (Int32.ofNat i))]) (rest := []) (pc' := 15) (ce' := 0) (sl' := 0) (con_chAt l Z a0 hw h0 n0 σ s cs S i hi cz hcz O2 fm rf O4) (hw _ (List.mem_of_getElem? (i := 79) rfl)) (hw _ (List.mem_of_getElem? (i := 80) rfl)) (hw _ (List.mem_of_getElem? (i := 82) rfl)) (hw _ (List.mem_of_getElem? (i := 81) rfl)) (hw _ (List.mem_of_getElem? (i := 15) rfl)) (hw _ (List.mem_of_getElem? (i := 83) rfl)) (nfS (hw _ (List.mem_of_getElem? (i := 82) rfl))) (by decide) S.1.1 d16_12 rfl pd17 rfl rfl rfl (by decide) (W := 0) rfl (by decide) (by decide) (by decide) (by decide) (by decide) ?_
        intro v12 h12 σ12 q12
        obtain ⟨rfl, rfl, rfl⟩ := q12
        show Go κ σ h0 0 0 15 #[.val (.ref s), .val (.int (Int32.ofNat i))] [(.int cs[i])]
        refine Go.callS D (argsL := [(.int cs[i])]) (rest := []) (pc' := 18) (ce' := 0) (sl' := 0) (con_itc l Z a0 hw h0 n0 σ cs[i] (ht _ (List.getElem_mem hi))) (hw _ (List.mem_of_getElem? (i := 101) rfl)) (hw _ (List.mem_of_getElem? (i := 102) rfl)) (hw _ (List.mem_of_getElem? (i := 12) rfl)) (hw _ (List.mem_of_getElem? (i := 103) rfl)) (by decide) d16_15 rfl pd22 rfl rfl rfl (by decide) (W := 0) rfl (by decide) (by decide) (by decide) (by decide) (by decide) ?_
        intro v15 h15 σ15 q15
        obtain ⟨rfl, rfl, rfl⟩ := q15
        show Go κ σ h0 0 0 18 #[.val (.ref s), .val (.int (Int32.ofNat i))] [(.int (1 : Int32))]
        refine Go.ifc D (pc' := 23) (pc2 := 21) d16_18 (by decide) (by decide) rfl (fun _ => ?_) (fun (hc : (1 : Int32) = 0) => absurd hc (by decide))
        refine Go.iinc D (pc' := 26) d16_23 rfl rfl (d := (1 : Int32)) rfl (ls' := #[.val (.ref s), .val (.int ((Int32.ofNat i) + (1 : Int32)))]) rfl ?_
        refine Go.goto D (pc' := 2) d16_26 (by decide) (by decide) ?_
        rw [own_succ]
        exact ih (cs.length - (i + 1)) (by omega) (i + 1) rfl (by omega)
  refine Go.iconst D (pc' := 1) d16_0 rfl (v := (0 : Int32)) rfl ?_
  refine Go.istoreN D (pc' := 2) d16_1 rfl (ls' := #[.val (.ref s), .val (.int (0 : Int32))]) rfl ?_
  exact loop (cs.length - 0) 0 rfl (by omega)
abbrev y11 : MethodName := ⟨"com/example/ticks_into_totals/ticksintototals/CounterName", "checkToken", "(Ljava/lang/String;Ljava/lang/String;)Ljava/lang/String;"⟩
theorem d11_0 : decode prog_3_method_4_code 0 = .ok (.aload_n 1, 1) := by decide +kernel
theorem d11_1 : decode prog_3_method_4_code 1 = .ok (.aload_n 0, 1) := by decide +kernel
theorem d11_2 : decode prog_3_method_4_code 2 = .ok (.invokestatic 39, 3) := by decide +kernel
theorem d11_5 : decode prog_3_method_4_code 5 = .ok (.pop, 1) := by decide +kernel
theorem d11_6 : decode prog_3_method_4_code 6 = .ok (.aload_n 1, 1) := by decide +kernel
theorem d11_7 : decode prog_3_method_4_code 7 = .ok (.invokevirtual 45, 3) := by decide +kernel
theorem d11_10 : decode prog_3_method_4_code 10 = .ok (.ifCond .ne 19, 3) := by decide +kernel
theorem d11_13 : decode prog_3_method_4_code 13 = .ok (.aload_n 1, 1) := by decide +kernel
theorem d11_14 : decode prog_3_method_4_code 14 = .ok (.invokevirtual 49, 3) := by decide +kernel
theorem d11_17 : decode prog_3_method_4_code 17 = .ok (.bipush 64, 2) := by decide +kernel
theorem d11_19 : decode prog_3_method_4_code 19 = .ok (.if_icmp .gt 10, 3) := by decide +kernel
theorem d11_22 : decode prog_3_method_4_code 22 = .ok (.aload_n 1, 1) := by decide +kernel
theorem d11_23 : decode prog_3_method_4_code 23 = .ok (.invokestatic 52, 3) := by decide +kernel
theorem d11_26 : decode prog_3_method_4_code 26 = .ok (.ifCond .ne 32, 3) := by decide +kernel
theorem d11_58 : decode prog_3_method_4_code 58 = .ok (.aload_n 1, 1) := by decide +kernel
theorem d11_59 : decode prog_3_method_4_code 59 = .ok (.areturn, 1) := by decide +kernel
theorem pd11 : parseMethodDescriptor "(Ljava/lang/String;Ljava/lang/String;)Ljava/lang/String;" = some ⟨[(.object "java/lang/String"), (.object "java/lang/String")], (some (.object "java/lang/String"))⟩ := by decide +kernel
theorem pn11 : plainFor y11 = true := by first | exact plainFor_of_name (by first | (simp [plainName, overriddenIn]; done) | decide +kernel) | decide +kernel | rfl
set_option maxRecDepth 65536 in
set_option maxHeartbeats 40000000 in
theorem con_chTok (l : Launch) (Z : State) (a0 : Array Value) (hw : ∀ d ∈ tables_1, d.before a0 Z = true) (h0 : Heap) (n0 : Nat) (σ : Sg) (pt s : Addr) (cs : List Int32) (S : Str Z h0 s cs) (hne : ¬ cs = []) (ht : ∀ c ∈ cs, TokC c) (cz : Int32) (hcz : ¬ cz = 0) (O2 : Sta Z Z.heap "java/lang/String" "COMPACT_STRINGS" "Z" (.int cz)) (fm : Value) (rf : fm.isRef = true) (O4 : Sta Z Z.heap "jdk/internal/util/Preconditions" "SIOOBE_FORMATTER" "Ljava/util/function/BiFunction;" fm) :
    Con l Z y11 prog_3_method_4_code 2 ((some (.object "java/lang/String"))) ({ frames := 5, cells := 0, slots := 0, locals := 80 } : Room) [] #[(.ref pt), (.ref s)] σ h0 n0 (fun v h τ => h0 = h ∧ σ = τ ∧ v = some (.ref s)) := by
  refine Con.of_go pn11 (ls := #[.val (.ref pt), .val (.ref s)]) (fun m => by first | (simp [entryFrame, mkF, argsToLocals, Value.category]; done) | rfl) ?_
  intro κ D
  have hl := S.2.2
  refine Go.aloadN D (pc' := 1) d11_0 rfl rfl rfl ?_
  refine Go.aloadN D (pc' := 2) d11_1 rfl rfl rfl ?_
  refine Go.callS D (argsL := [(.ref s), (.ref pt)]) (rest := []) (pc' := 5) (ce' := 0) (sl' := 0) (con_rnn l Z a0 hw h0 n0 σ s pt) (hw _ (List.mem_of_getElem? (i := 57) rfl)) (hw _ (List.mem_of_getElem? (i := 58) rfl)) (hw _ (List.mem_of_getElem? (i := 59) rfl)) (hw _ (List.mem_of_getElem? (i := 60) rfl)) (by decide) d11_2 rfl pd12 rfl rfl rfl (by decide) (W := 0) rfl (by decide) (by decide) (by decide) (by decide) (by decide) ?_
  intro v2 h2 σ2 q2
  obtain ⟨rfl, rfl, rfl⟩ := q2
  show Go κ σ h0 0 0 5 #[.val (.ref pt), .val (.ref s)] [(.ref s)]
  refine Go.pop D (pc' := 6) d11_5 rfl rfl ?_
  refine Go.aloadN D (pc' := 7) d11_6 rfl rfl rfl ?_
  refine Go.callV D (argsL := []) (rest := []) (pc' := 10) (ce' := 0) (sl' := 0) (con_sempty l Z a0 hw h0 n0 σ s cs S) (hw _ (List.mem_of_getElem? (i := 61) rfl)) (hw _ (List.mem_of_getElem? (i := 62) rfl)) (hw _ (List.mem_of_getElem? (i := 64) rfl)) (hw _ (List.mem_of_getElem? (i := 63) rfl)) (hw _ (List.mem_of_getElem? (i := 15) rfl)) (hw _ (List.mem_of_getElem? (i := 65) rfl)) (nfS (hw _ (List.mem_of_getElem? (i := 64) rfl))) (by decide) S.1.1 d11_7 rfl pd13 rfl rfl rfl (by decide) (W := 0) rfl (by decide) (by decide) (by decide) (by decide) (by decide) ?_
  intro v7 h7 σ7 q7
  obtain ⟨rfl, rfl, r, rfl, hr⟩ := q7
  obtain rfl : r = 0 := hr.elim (fun z => absurd z.2 hne) (fun z => z.1)
  show Go κ σ h0 0 0 10 #[.val (.ref pt), .val (.ref s)] [(.int (0 : Int32))]
  refine Go.ifc D (pc' := 29) (pc2 := 13) d11_10 (by decide) (by decide) rfl (fun (hc : ¬ (0 : Int32) = 0) => absurd hc (by decide)) (fun _ => ?_)
  refine Go.aloadN D (pc' := 14) d11_13 rfl rfl rfl ?_
  refine Go.callV D (argsL := []) (rest := []) (pc' := 17) (ce' := 0) (sl' := 0) (con_slen l Z a0 hw h0 n0 σ s cs S cz hcz O2) (hw _ (List.mem_of_getElem? (i := 66) rfl)) (hw _ (List.mem_of_getElem? (i := 67) rfl)) (hw _ (List.mem_of_getElem? (i := 69) rfl)) (hw _ (List.mem_of_getElem? (i := 68) rfl)) (hw _ (List.mem_of_getElem? (i := 15) rfl)) (hw _ (List.mem_of_getElem? (i := 70) rfl)) (nfS (hw _ (List.mem_of_getElem? (i := 69) rfl))) (by decide) S.1.1 d11_14 rfl pd14 rfl rfl rfl (by decide) (W := 0) rfl (by decide) (by decide) (by decide) (by decide) (by decide) ?_
  intro v14 h14 σ14 q14
  obtain ⟨rfl, rfl, rfl⟩ := q14
  show Go κ σ h0 0 0 17 #[.val (.ref pt), .val (.ref s)] [(.int (Int32.ofNat cs.length))]
  refine Go.bipush D (pc' := 19) d11_17 rfl (v := (64 : Int32)) rfl ?_
  refine Go.icmp D (pc' := 29) (pc2 := 22) d11_19 (by decide) (by decide) rfl ?_ ?_
  · intro (hc19 : (64 : Int32) < (Int32.ofNat cs.length))
    exact absurd ((own_lt (i := 64) (by omega) (by omega)).mp hc19) (by omega)
  · intro (hc19 : ¬ (64 : Int32) < (Int32.ofNat cs.length))
    refine Go.aloadN D (pc' := 23) d11_22 rfl rfl rfl ?_
    refine Go.callS D (argsL := [(.ref s)]) (rest := []) (pc' := 26) (ce' := 0) (sl' := 0) (con_isTok l Z a0 hw h0 n0 σ s cs S ht cz hcz O2 fm rf O4) (hw _ (List.mem_of_getElem? (i := 76) rfl)) (hw _ (List.mem_of_getElem? (i := 77) rfl)) (hw _ (List.mem_of_getElem? (i := 12) rfl)) (hw _ (List.mem_of_getElem? (i := 78) rfl)) (by decide) d11_23 rfl pd16 rfl rfl rfl (by decide) (W := 0) rfl (by decide) (by decide) (by decide) (by decide) (by decide) ?_
    intro v23 h23 σ23 q23
    obtain ⟨rfl, rfl, rfl⟩ := q23
    show Go κ σ h0 0 0 26 #[.val (.ref pt), .val (.ref s)] [(.int (1 : Int32))]
    refine Go.ifc D (pc' := 58) (pc2 := 29) d11_26 (by decide) (by decide) rfl (fun _ => ?_) (fun (hc : (1 : Int32) = 0) => absurd hc (by decide))
    refine Go.aloadN D (pc' := 59) d11_58 rfl rfl rfl ?_
    refine Go.aret D rfl rfl rfl d11_59 (by decide) (by decide) ?_
    exact ⟨rfl, rfl, rfl⟩
abbrev y1 : MethodName := ⟨"com/example/ticks_into_totals/ticksintototals/CounterNameHashCodePinLaw", "tok", "(I)C"⟩
theorem d1_0 : decode method_2_code 0 = .ok (.iload_n 0, 1) := by decide +kernel
theorem d1_1 : decode method_2_code 1 = .ok (.ldc 7, 2) := by decide +kernel
theorem d1_3 : decode method_2_code 3 = .ok (.iand, 1) := by decide +kernel
theorem d1_4 : decode method_2_code 4 = .ok (.bipush 65, 2) := by decide +kernel
theorem d1_6 : decode method_2_code 6 = .ok (.irem, 1) := by decide +kernel
theorem d1_7 : decode method_2_code 7 = .ok (.istore_n 1, 1) := by decide +kernel
theorem d1_8 : decode method_2_code 8 = .ok (.iload_n 1, 1) := by decide +kernel
theorem d1_9 : decode method_2_code 9 = .ok (.bipush 26, 2) := by decide +kernel
theorem d1_11 : decode method_2_code 11 = .ok (.if_icmp .ge 9, 3) := by decide +kernel
theorem d1_14 : decode method_2_code 14 = .ok (.bipush 65, 2) := by decide +kernel
theorem d1_16 : decode method_2_code 16 = .ok (.iload_n 1, 1) := by decide +kernel
theorem d1_17 : decode method_2_code 17 = .ok (.iadd, 1) := by decide +kernel
theorem d1_18 : decode method_2_code 18 = .ok (.i2c, 1) := by decide +kernel
theorem d1_19 : decode method_2_code 19 = .ok (.ireturn, 1) := by decide +kernel
theorem d1_20 : decode method_2_code 20 = .ok (.iload_n 1, 1) := by decide +kernel
theorem d1_21 : decode method_2_code 21 = .ok (.bipush 52, 2) := by decide +kernel
theorem d1_23 : decode method_2_code 23 = .ok (.if_icmp .ge 12, 3) := by decide +kernel
theorem d1_26 : decode method_2_code 26 = .ok (.bipush 97, 2) := by decide +kernel
theorem d1_28 : decode method_2_code 28 = .ok (.iload_n 1, 1) := by decide +kernel
theorem d1_29 : decode method_2_code 29 = .ok (.bipush 26, 2) := by decide +kernel
theorem d1_31 : decode method_2_code 31 = .ok (.isub, 1) := by decide +kernel
theorem d1_32 : decode method_2_code 32 = .ok (.iadd, 1) := by decide +kernel
theorem d1_33 : decode method_2_code 33 = .ok (.i2c, 1) := by decide +kernel
theorem d1_34 : decode method_2_code 34 = .ok (.ireturn, 1) := by decide +kernel
theorem d1_35 : decode method_2_code 35 = .ok (.iload_n 1, 1) := by decide +kernel
theorem d1_36 : decode method_2_code 36 = .ok (.bipush 62, 2) := by decide +kernel
theorem d1_38 : decode method_2_code 38 = .ok (.if_icmp .ge 12, 3) := by decide +kernel
theorem d1_41 : decode method_2_code 41 = .ok (.bipush 48, 2) := by decide +kernel
theorem d1_43 : decode method_2_code 43 = .ok (.iload_n 1, 1) := by decide +kernel
theorem d1_44 : decode method_2_code 44 = .ok (.bipush 52, 2) := by decide +kernel
theorem d1_46 : decode method_2_code 46 = .ok (.isub, 1) := by decide +kernel
theorem d1_47 : decode method_2_code 47 = .ok (.iadd, 1) := by decide +kernel
theorem d1_48 : decode method_2_code 48 = .ok (.i2c, 1) := by decide +kernel
theorem d1_49 : decode method_2_code 49 = .ok (.ireturn, 1) := by decide +kernel
theorem d1_50 : decode method_2_code 50 = .ok (.iload_n 1, 1) := by decide +kernel
theorem d1_51 : decode method_2_code 51 = .ok (.bipush 62, 2) := by decide +kernel
theorem d1_53 : decode method_2_code 53 = .ok (.if_icmp .ne 6, 3) := by decide +kernel
theorem d1_56 : decode method_2_code 56 = .ok (.bipush 95, 2) := by decide +kernel
theorem d1_58 : decode method_2_code 58 = .ok (.ireturn, 1) := by decide +kernel
theorem d1_59 : decode method_2_code 59 = .ok (.iload_n 1, 1) := by decide +kernel
theorem d1_60 : decode method_2_code 60 = .ok (.bipush 63, 2) := by decide +kernel
theorem d1_62 : decode method_2_code 62 = .ok (.if_icmp .ne 6, 3) := by decide +kernel
theorem d1_65 : decode method_2_code 65 = .ok (.bipush 46, 2) := by decide +kernel
theorem d1_67 : decode method_2_code 67 = .ok (.ireturn, 1) := by decide +kernel
theorem d1_68 : decode method_2_code 68 = .ok (.bipush 45, 2) := by decide +kernel
theorem d1_70 : decode method_2_code 70 = .ok (.ireturn, 1) := by decide +kernel
theorem pd1 : parseMethodDescriptor "(I)C" = some ⟨[.int], (some .char)⟩ := by decide +kernel
theorem pn1 : plainFor y1 = true := by first | exact plainFor_of_name (by first | (simp [plainName, overriddenIn]; done) | decide +kernel) | decide +kernel | rfl
set_option maxRecDepth 65536 in
set_option maxHeartbeats 40000000 in
theorem con_tok (l : Launch) (Z : State) (a0 : Array Value) (hw : ∀ d ∈ tables_1, d.before a0 Z = true) (h0 : Heap) (n0 : Nat) (σ : Sg) (x : Int32) :
    Con l Z y1 method_2_code 2 ((some .char)) ({ frames := 0, cells := 0, slots := 0, locals := 0 } : Room) [] #[(.int x)] σ h0 n0 (fun v h τ => h0 = h ∧ σ = τ ∧ ∃ r, v = some (.int r) ∧ TokC r) := by
  refine Con.of_go pn1 (ls := #[.val (.int x), .unset]) (fun m => by first | (simp [entryFrame, mkF, argsToLocals, Value.category]; done) | rfl) ?_
  intro κ D
  refine Go.iloadN D (pc' := 1) d1_0 rfl rfl ?_
  refine Go.ldcInt D (pc' := 3) (hw _ (List.mem_of_getElem? (i := 6) rfl)) d1_1 rfl ?_
  refine Go.iand D (pc' := 4) d1_3 rfl  ?_
  refine Go.bipush D (pc' := 6) d1_4 rfl (v := (65 : Int32)) rfl ?_
  refine Go.irem D (pc' := 7) d1_6 rfl (by decide) ?_
  have b1 := c_and x 2147483647 (by decide)
  have b2 := (c_irem (x &&& 2147483647) 65 65 rfl).1 b1.1
  obtain ⟨k, hk⟩ : ∃ k, k = ((x &&& (2147483647 : Int32)) % (65 : Int32)) := ⟨_, rfl⟩
  rw [← hk]
  have b3 : k.toInt = (x &&& 2147483647).toInt % 65 := by rw [hk]; exact b2
  refine Go.istoreN D (pc' := 8) d1_7 rfl (ls' := #[.val (.int x), .val (.int k)]) rfl ?_
  refine Go.iloadN D (pc' := 9) d1_8 rfl rfl ?_
  refine Go.bipush D (pc' := 11) d1_9 rfl (v := (26 : Int32)) rfl ?_
  refine Go.icmp D (pc' := 20) (pc2 := 14) d1_11 (by decide) (by decide) rfl ?_ ?_
  · intro (hc11 : ¬ k < (26 : Int32))
    refine Go.iloadN D (pc' := 21) d1_20 rfl rfl ?_
    refine Go.bipush D (pc' := 23) d1_21 rfl (v := (52 : Int32)) rfl ?_
    refine Go.icmp D (pc' := 35) (pc2 := 26) d1_23 (by decide) (by decide) rfl ?_ ?_
    · intro (hc23 : ¬ k < (52 : Int32))
      refine Go.iloadN D (pc' := 36) d1_35 rfl rfl ?_
      refine Go.bipush D (pc' := 38) d1_36 rfl (v := (62 : Int32)) rfl ?_
      refine Go.icmp D (pc' := 50) (pc2 := 41) d1_38 (by decide) (by decide) rfl ?_ ?_
      · intro (hc38 : ¬ k < (62 : Int32))
        refine Go.iloadN D (pc' := 51) d1_50 rfl rfl ?_
        refine Go.bipush D (pc' := 53) d1_51 rfl (v := (62 : Int32)) rfl ?_
        refine Go.icmp D (pc' := 59) (pc2 := 56) d1_53 (by decide) (by decide) rfl ?_ ?_
        · intro (hc53 : ¬ k = (62 : Int32))
          refine Go.iloadN D (pc' := 60) d1_59 rfl rfl ?_
          refine Go.bipush D (pc' := 62) d1_60 rfl (v := (63 : Int32)) rfl ?_
          refine Go.icmp D (pc' := 68) (pc2 := 65) d1_62 (by decide) (by decide) rfl ?_ ?_
          · intro (hc62 : ¬ k = (63 : Int32))
            refine Go.bipush D (pc' := 70) d1_68 rfl (v := (45 : Int32)) rfl ?_
            refine Go.cret D rfl rfl d1_70 (by decide) (by decide) ?_
            exact ⟨rfl, rfl, _, rfl, by unfold TokC; decide⟩
          · intro (hc62 : k = (63 : Int32))
            refine Go.bipush D (pc' := 67) d1_65 rfl (v := (46 : Int32)) rfl ?_
            refine Go.cret D rfl rfl d1_67 (by decide) (by decide) ?_
            exact ⟨rfl, rfl, _, rfl, by unfold TokC; decide⟩
        · intro (hc53 : k = (62 : Int32))
          refine Go.bipush D (pc' := 58) d1_56 rfl (v := (95 : Int32)) rfl ?_
          refine Go.cret D rfl rfl d1_58 (by decide) (by decide) ?_
          exact ⟨rfl, rfl, _, rfl, by unfold TokC; decide⟩
      · intro (hc38 : k < (62 : Int32))
        refine Go.bipush D (pc' := 43) d1_41 rfl (v := (48 : Int32)) rfl ?_
        refine Go.iloadN D (pc' := 44) d1_43 rfl rfl ?_
        refine Go.bipush D (pc' := 46) d1_44 rfl (v := (52 : Int32)) rfl ?_
        refine Go.isub D (pc' := 47) d1_46 rfl  ?_
        refine Go.iadd D (pc' := 48) d1_47 rfl  ?_
        refine Go.i2c D (pc' := 49) d1_48 rfl  ?_
        have a0' := c_isub k 52
        have a0'' := rng32 (k - 52)
        have t1 : TokC ((48 : Int32) + (k - (52 : Int32))) := by
          unfold TokC
          have a1 := And.intro (c_iadd 48 (k - 52)) (And.intro a0' a0'')
          have a2 := rng32 ((48 : Int32) + (k - (52 : Int32)))
          simp only [Int32.lt_iff_toInt_lt, ← Int32.toInt_inj, show (0 : Int32).toInt = 0 from rfl, show (26 : Int32).toInt = 26 from rfl, show (45 : Int32).toInt = 45 from rfl, show (46 : Int32).toInt = 46 from rfl, show (48 : Int32).toInt = 48 from rfl, show (52 : Int32).toInt = 52 from rfl, show (57 : Int32).toInt = 57 from rfl, show (62 : Int32).toInt = 62 from rfl, show (63 : Int32).toInt = 63 from rfl, show (65 : Int32).toInt = 65 from rfl, show (90 : Int32).toInt = 90 from rfl, show (95 : Int32).toInt = 95 from rfl, show (97 : Int32).toInt = 97 from rfl, show (122 : Int32).toInt = 122 from rfl, show (256 : Int32).toInt = 256 from rfl] at hc11 hc23 hc38 a1 a2 ⊢
          omega
        rw [char_nar t1.lat]
        refine Go.cret D rfl (congrArg Value.int (char_nar t1.lat)) d1_49 (by decide) (by decide) ?_
        exact ⟨rfl, rfl, _, rfl, t1⟩
    · intro (hc23 : k < (52 : Int32))
      refine Go.bipush D (pc' := 28) d1_26 rfl (v := (97 : Int32)) rfl ?_
      refine Go.iloadN D (pc' := 29) d1_28 rfl rfl ?_
      refine Go.bipush D (pc' := 31) d1_29 rfl (v := (26 : Int32)) rfl ?_
      refine Go.isub D (pc' := 32) d1_31 rfl  ?_
      refine Go.iadd D (pc' := 33) d1_32 rfl  ?_
      refine Go.i2c D (pc' := 34) d1_33 rfl  ?_
      have a0' := c_isub k 26
      have a0'' := rng32 (k - 26)
      have t1 : TokC ((97 : Int32) + (k - (26 : Int32))) := by
        unfold TokC
        have a1 := And.intro (c_iadd 97 (k - 26)) (And.intro a0' a0'')
        have a2 := rng32 ((97 : Int32) + (k - (26 : Int32)))
        simp only [Int32.lt_iff_toInt_lt, ← Int32.toInt_inj, show (0 : Int32).toInt = 0 from rfl, show (26 : Int32).toInt = 26 from rfl, show (45 : Int32).toInt = 45 from rfl, show (46 : Int32).toInt = 46 from rfl, show (48 : Int32).toInt = 48 from rfl, show (52 : Int32).toInt = 52 from rfl, show (57 : Int32).toInt = 57 from rfl, show (62 : Int32).toInt = 62 from rfl, show (63 : Int32).toInt = 63 from rfl, show (65 : Int32).toInt = 65 from rfl, show (90 : Int32).toInt = 90 from rfl, show (95 : Int32).toInt = 95 from rfl, show (97 : Int32).toInt = 97 from rfl, show (122 : Int32).toInt = 122 from rfl, show (256 : Int32).toInt = 256 from rfl] at hc11 hc23 a1 a2 ⊢
        omega
      rw [char_nar t1.lat]
      refine Go.cret D rfl (congrArg Value.int (char_nar t1.lat)) d1_34 (by decide) (by decide) ?_
      exact ⟨rfl, rfl, _, rfl, t1⟩
  · intro (hc11 : k < (26 : Int32))
    refine Go.bipush D (pc' := 16) d1_14 rfl (v := (65 : Int32)) rfl ?_
    refine Go.iloadN D (pc' := 17) d1_16 rfl rfl ?_
    refine Go.iadd D (pc' := 18) d1_17 rfl  ?_
    refine Go.i2c D (pc' := 19) d1_18 rfl  ?_
    have t1 : TokC ((65 : Int32) + k) := by
      unfold TokC
      have a1 := c_iadd 65 k
      have a2 := rng32 ((65 : Int32) + k)
      simp only [Int32.lt_iff_toInt_lt, ← Int32.toInt_inj, show (0 : Int32).toInt = 0 from rfl, show (26 : Int32).toInt = 26 from rfl, show (45 : Int32).toInt = 45 from rfl, show (46 : Int32).toInt = 46 from rfl, show (48 : Int32).toInt = 48 from rfl, show (52 : Int32).toInt = 52 from rfl, show (57 : Int32).toInt = 57 from rfl, show (62 : Int32).toInt = 62 from rfl, show (63 : Int32).toInt = 63 from rfl, show (65 : Int32).toInt = 65 from rfl, show (90 : Int32).toInt = 90 from rfl, show (95 : Int32).toInt = 95 from rfl, show (97 : Int32).toInt = 97 from rfl, show (122 : Int32).toInt = 122 from rfl, show (256 : Int32).toInt = 256 from rfl] at hc11 a1 a2 ⊢
      omega
    rw [char_nar t1.lat]
    refine Go.cret D rfl (congrArg Value.int (char_nar t1.lat)) d1_19 (by decide) (by decide) ?_
    exact ⟨rfl, rfl, _, rfl, t1⟩
abbrev y2 : MethodName := ⟨"com/example/ticks_into_totals/ticksintototals/CounterNameHashCodePinLaw", "idc", "(I)C"⟩
theorem d2_0 : decode method_3_code 0 = .ok (.iload_n 0, 1) := by decide +kernel
theorem d2_1 : decode method_3_code 1 = .ok (.sipush 255, 3) := by decide +kernel
theorem d2_4 : decode method_3_code 4 = .ok (.iand, 1) := by decide +kernel
theorem d2_5 : decode method_3_code 5 = .ok (.istore_n 1, 1) := by decide +kernel
theorem d2_6 : decode method_3_code 6 = .ok (.iload_n 1, 1) := by decide +kernel
theorem d2_7 : decode method_3_code 7 = .ok (.bipush 32, 2) := by decide +kernel
theorem d2_9 : decode method_3_code 9 = .ok (.if_icmp .ge 9, 3) := by decide +kernel
theorem d2_12 : decode method_3_code 12 = .ok (.iload_n 1, 1) := by decide +kernel
theorem d2_13 : decode method_3_code 13 = .ok (.bipush 64, 2) := by decide +kernel
theorem d2_15 : decode method_3_code 15 = .ok (.ior, 1) := by decide +kernel
theorem d2_16 : decode method_3_code 16 = .ok (.i2c, 1) := by decide +kernel
theorem d2_17 : decode method_3_code 17 = .ok (.ireturn, 1) := by decide +kernel
theorem d2_18 : decode method_3_code 18 = .ok (.iload_n 1, 1) := by decide +kernel
theorem d2_19 : decode method_3_code 19 = .ok (.bipush 127, 2) := by decide +kernel
theorem d2_21 : decode method_3_code 21 = .ok (.if_icmp .ne 6, 3) := by decide +kernel
theorem d2_24 : decode method_3_code 24 = .ok (.bipush 126, 2) := by decide +kernel
theorem d2_26 : decode method_3_code 26 = .ok (.ireturn, 1) := by decide +kernel
theorem d2_27 : decode method_3_code 27 = .ok (.iload_n 1, 1) := by decide +kernel
theorem d2_28 : decode method_3_code 28 = .ok (.i2c, 1) := by decide +kernel
theorem d2_29 : decode method_3_code 29 = .ok (.ireturn, 1) := by decide +kernel
theorem pd2 : parseMethodDescriptor "(I)C" = some ⟨[.int], (some .char)⟩ := by decide +kernel
theorem pn2 : plainFor y2 = true := by first | exact plainFor_of_name (by first | (simp [plainName, overriddenIn]; done) | decide +kernel) | decide +kernel | rfl
set_option maxRecDepth 65536 in
set_option maxHeartbeats 40000000 in
theorem con_idc (l : Launch) (Z : State) (a0 : Array Value) (hw : ∀ d ∈ tables_1, d.before a0 Z = true) (h0 : Heap) (n0 : Nat) (σ : Sg) (x : Int32) :
    Con l Z y2 method_3_code 2 ((some .char)) ({ frames := 0, cells := 0, slots := 0, locals := 0 } : Room) [] #[(.int x)] σ h0 n0 (fun v h τ => h0 = h ∧ σ = τ ∧ ∃ r, v = some (.int r) ∧ IdC r) := by
  refine Con.of_go pn2 (ls := #[.val (.int x), .unset]) (fun m => by first | (simp [entryFrame, mkF, argsToLocals, Value.category]; done) | rfl) ?_
  intro κ D
  refine Go.iloadN D (pc' := 1) d2_0 rfl rfl ?_
  refine Go.sipush D (pc' := 4) d2_1 rfl (v := (255 : Int32)) rfl ?_
  refine Go.iand D (pc' := 5) d2_4 rfl  ?_
  have b1 := c_and x 255 (by decide)
  rw [show (255 : Int32).toInt = 255 from rfl] at b1
  obtain ⟨k, hk⟩ : ∃ k, k = (x &&& (255 : Int32)) := ⟨_, rfl⟩
  rw [← hk] at b1 ⊢
  refine Go.istoreN D (pc' := 6) d2_5 rfl (ls' := #[.val (.int x), .val (.int k)]) rfl ?_
  refine Go.iloadN D (pc' := 7) d2_6 rfl rfl ?_
  refine Go.bipush D (pc' := 9) d2_7 rfl (v := (32 : Int32)) rfl ?_
  refine Go.icmp D (pc' := 18) (pc2 := 12) d2_9 (by decide) (by decide) rfl ?_ ?_
  · intro (hc9 : ¬ k < (32 : Int32))
    refine Go.iloadN D (pc' := 19) d2_18 rfl rfl ?_
    refine Go.bipush D (pc' := 21) d2_19 rfl (v := (127 : Int32)) rfl ?_
    refine Go.icmp D (pc' := 27) (pc2 := 24) d2_21 (by decide) (by decide) rfl ?_ ?_
    · intro (hc21 : ¬ k = (127 : Int32))
      refine Go.iloadN D (pc' := 28) d2_27 rfl rfl ?_
      refine Go.i2c D (pc' := 29) d2_28 rfl  ?_
      have t1 : IdC (k) := by
        skip
        unfold IdC
        simp only [Int32.lt_iff_toInt_lt, ← Int32.toInt_inj, show (0 : Int32).toInt = 0 from rfl, show (32 : Int32).toInt = 32 from rfl, show (126 : Int32).toInt = 126 from rfl, show (127 : Int32).toInt = 127 from rfl, show (256 : Int32).toInt = 256 from rfl] at hc9 hc21 ⊢
        omega
      rw [char_nar t1.lat]
      refine Go.cret D rfl (congrArg Value.int (char_nar t1.lat)) d2_29 (by decide) (by decide) ?_
      exact ⟨rfl, rfl, _, rfl, t1⟩
    · intro (hc21 : k = (127 : Int32))
      refine Go.bipush D (pc' := 26) d2_24 rfl (v := (126 : Int32)) rfl ?_
      refine Go.cret D rfl rfl d2_26 (by decide) (by decide) ?_
      exact ⟨rfl, rfl, _, rfl, by unfold IdC; decide⟩
  · intro (hc9 : k < (32 : Int32))
    refine Go.iloadN D (pc' := 13) d2_12 rfl rfl ?_
    refine Go.bipush D (pc' := 15) d2_13 rfl (v := (64 : Int32)) rfl ?_
    refine Go.ior D (pc' := 16) d2_15 rfl  ?_
    refine Go.i2c D (pc' := 17) d2_16 rfl  ?_
    have t1 : IdC (k ||| (64 : Int32)) := by
      have a1 := or64 b1.1 hc9
      unfold IdC
      simp only [Int32.lt_iff_toInt_lt, ← Int32.toInt_inj, show (0 : Int32).toInt = 0 from rfl, show (32 : Int32).toInt = 32 from rfl, show (126 : Int32).toInt = 126 from rfl, show (127 : Int32).toInt = 127 from rfl, show (256 : Int32).toInt = 256 from rfl] at hc9 ⊢
      omega
    rw [char_nar t1.lat]
    refine Go.cret D rfl (congrArg Value.int (char_nar t1.lat)) d2_17 (by decide) (by decide) ?_
    exact ⟨rfl, rfl, _, rfl, t1⟩
abbrev y25 : MethodName := ⟨"java/lang/String", "codePointAt", "(I)I"⟩
theorem d25_0 : decode jdk_42_method_57_code 0 = .ok (.aload_n 0, 1) := by decide +kernel
theorem d25_1 : decode jdk_42_method_57_code 1 = .ok (.invokevirtual 492, 3) := by decide +kernel
theorem d25_4 : decode jdk_42_method_57_code 4 = .ok (.ifCond .eq 23, 3) := by decide +kernel
theorem d25_7 : decode jdk_42_method_57_code 7 = .ok (.iload_n 1, 1) := by decide +kernel
theorem d25_8 : decode jdk_42_method_57_code 8 = .ok (.aload_n 0, 1) := by decide +kernel
theorem d25_9 : decode jdk_42_method_57_code 9 = .ok (.getfield 9, 3) := by decide +kernel
theorem d25_12 : decode jdk_42_method_57_code 12 = .ok (.arraylength, 1) := by decide +kernel
theorem d25_13 : decode jdk_42_method_57_code 13 = .ok (.invokestatic 499, 3) := by decide +kernel
theorem d25_16 : decode jdk_42_method_57_code 16 = .ok (.aload_n 0, 1) := by decide +kernel
theorem d25_17 : decode jdk_42_method_57_code 17 = .ok (.getfield 9, 3) := by decide +kernel
theorem d25_20 : decode jdk_42_method_57_code 20 = .ok (.iload_n 1, 1) := by decide +kernel
theorem d25_21 : decode jdk_42_method_57_code 21 = .ok (.baload, 1) := by decide +kernel
theorem d25_22 : decode jdk_42_method_57_code 22 = .ok (.sipush 255, 3) := by decide +kernel
theorem d25_25 : decode jdk_42_method_57_code 25 = .ok (.iand, 1) := by decide +kernel
theorem d25_26 : decode jdk_42_method_57_code 26 = .ok (.ireturn, 1) := by decide +kernel
theorem pd25 : parseMethodDescriptor "(I)I" = some ⟨[.int], (some .int)⟩ := by decide +kernel
theorem pn25 : plainFor y25 = true := by first | exact plainFor_of_name (by first | (simp [plainName, overriddenIn]; done) | decide +kernel) | decide +kernel | rfl
set_option maxRecDepth 65536 in
set_option maxHeartbeats 40000000 in
theorem con_cpa (l : Launch) (Z : State) (a0 : Array Value) (hw : ∀ d ∈ tables_1, d.before a0 Z = true) (h0 : Heap) (n0 : Nat) (σ : Sg) (s : Addr) (cs : List Int32) (S : Str Z h0 s cs) (i : Nat) (hi : i < cs.length) (cz : Int32) (hcz : ¬ cz = 0) (O2 : Sta Z Z.heap "java/lang/String" "COMPACT_STRINGS" "Z" (.int cz)) (fm : Value) (rf : fm.isRef = true) (O4 : Sta Z Z.heap "jdk/internal/util/Preconditions" "SIOOBE_FORMATTER" "Ljava/util/function/BiFunction;" fm) :
    Con l Z y25 jdk_42_method_57_code 3 ((some .int)) ({ frames := 2, cells := 0, slots := 0, locals := 40 } : Room) [] #[(.ref s), (.int (Int32.ofNat i))] σ h0 n0 (fun v h τ => h0 = h ∧ σ = τ ∧ v = some (.int cs[i])) := by
  refine Con.of_go pn25 (ls := #[.val (.ref s), .val (.int (Int32.ofNat i)), .unset]) (fun m => by first | (simp [entryFrame, mkF, argsToLocals, Value.category]; done) | rfl) ?_
  intro κ D
  obtain ⟨e1, e2, b, kb, e3, e4⟩ := id S.1
  have hl := S.2.2
  refine Go.aloadN D (pc' := 1) d25_0 rfl rfl rfl ?_
  refine Go.callV D (argsL := []) (rest := []) (pc' := 4) (ce' := 0) (sl' := 0) (con_sisl l Z a0 hw h0 n0 σ s e2 cz hcz O2) (hw _ (List.mem_of_getElem? (i := 84) rfl)) (hw _ (List.mem_of_getElem? (i := 85) rfl)) (hw _ (List.mem_of_getElem? (i := 87) rfl)) (hw _ (List.mem_of_getElem? (i := 86) rfl)) (hw _ (List.mem_of_getElem? (i := 15) rfl)) (hw _ (List.mem_of_getElem? (i := 88) rfl)) (nfS (hw _ (List.mem_of_getElem? (i := 87) rfl))) (by decide) e1 d25_1 rfl pd18 rfl rfl rfl (by decide) (W := 0) rfl (by decide) (by decide) (by decide) (by decide) (by decide) ?_
  intro v1 h1 σ1 q1
  obtain ⟨rfl, rfl, rfl⟩ := q1
  show Go κ σ h0 0 0 4 #[.val (.ref s), .val (.int (Int32.ofNat i)), .unset] [(.int (1 : Int32))]
  refine Go.ifc D (pc' := 27) (pc2 := 7) d25_4 (by decide) (by decide) rfl (fun (hc : (1 : Int32) = 0) => absurd hc (by decide)) (fun _ => ?_)
  refine Go.iloadN D (pc' := 8) d25_7 rfl rfl ?_
  refine Go.aloadN D (pc' := 9) d25_8 rfl rfl rfl ?_
  refine Go.getF D (pc' := 12) (hw _ (List.mem_of_getElem? (i := 40) rfl)) d25_9 rfl e3 ?_
  refine Go.alen D (pc' := 13) d25_12 rfl e4 ?_
  refine Go.callS D (argsL := [(.int (Int32.ofNat i)), (.int (Int32.ofNat cs.length))]) (rest := []) (pc' := 16) (ce' := 0) (sl' := 0) (con_sci l Z a0 hw h0 n0 σ (Int32.ofNat i) (Int32.ofNat cs.length) (own_nn (by omega)) ((own_lt (by omega) (by omega)).mpr hi) fm rf O4) (hw _ (List.mem_of_getElem? (i := 116) rfl)) (hw _ (List.mem_of_getElem? (i := 94) rfl)) (hw _ (List.mem_of_getElem? (i := 15) rfl)) (hw _ (List.mem_of_getElem? (i := 95) rfl)) (by decide) d25_13 rfl pd20 rfl rfl rfl (by decide) (W := 0) rfl (by decide) (by decide) (by decide) (by decide) (by decide) ?_
  intro v13 h13 σ13 q13
  obtain ⟨rfl, rfl, rfl⟩ := q13
  show Go κ σ h0 0 0 16 #[.val (.ref s), .val (.int (Int32.ofNat i)), .unset] []
  refine Go.aloadN D (pc' := 17) d25_16 rfl rfl rfl ?_
  refine Go.getF D (pc' := 20) (hw _ (List.mem_of_getElem? (i := 40) rfl)) d25_17 rfl e3 ?_
  refine Go.iloadN D (pc' := 21) d25_20 rfl rfl ?_
  refine Go.baload D (pc' := 22) d25_21 rfl e4 (own_nn (by omega)) ((own_lt (by omega) (by omega)).mpr hi) (v := .int (cs[i].toInt8.toInt32)) (by rw [own_tn (by omega)]; exact bv_at hi _) ?_
  refine Go.sipush D (pc' := 25) d25_22 rfl (v := (255 : Int32)) rfl ?_
  refine Go.iand D (pc' := 26) d25_25 rfl  ?_
  rw [byte_back (S.2.1 _ (List.getElem_mem hi))]
  refine Go.iret D rfl d25_26 (by decide) (by decide) ?_
  exact ⟨rfl, rfl, rfl⟩
abbrev y26 : MethodName := ⟨"java/lang/Character", "charCount", "(I)I"⟩
theorem d26_0 : decode jdk_89_method_18_code 0 = .ok (.iload_n 0, 1) := by decide +kernel
theorem d26_1 : decode jdk_89_method_18_code 1 = .ok (.ldc 73, 2) := by decide +kernel
theorem d26_3 : decode jdk_89_method_18_code 3 = .ok (.if_icmp .lt 7, 3) := by decide +kernel
theorem d26_6 : decode jdk_89_method_18_code 6 = .ok (.iconst 2, 1) := by decide +kernel
theorem d26_7 : decode jdk_89_method_18_code 7 = .ok (.goto 4, 3) := by decide +kernel
theorem d26_10 : decode jdk_89_method_18_code 10 = .ok (.iconst 1, 1) := by decide +kernel
theorem d26_11 : decode jdk_89_method_18_code 11 = .ok (.ireturn, 1) := by decide +kernel
theorem pd26 : parseMethodDescriptor "(I)I" = some ⟨[.int], (some .int)⟩ := by decide +kernel
theorem pn26 : plainFor y26 = true := by first | exact plainFor_of_name (by first | (simp [plainName, overriddenIn]; done) | decide +kernel) | decide +kernel | rfl
set_option maxRecDepth 65536 in
set_option maxHeartbeats 40000000 in
theorem con_cct (l : Launch) (Z : State) (a0 : Array Value) (hw : ∀ d ∈ tables_1, d.before a0 Z = true) (h0 : Heap) (n0 : Nat) (σ : Sg) (x : Int32) (hx : x < 65536) :
    Con l Z y26 jdk_89_method_18_code 1 ((some .int)) ({ frames := 0, cells := 0, slots := 0, locals := 0 } : Room) [] #[(.int x)] σ h0 n0 (fun v h τ => h0 = h ∧ σ = τ ∧ v = some (.int 1)) := by
  refine Con.of_go pn26 (ls := #[.val (.int x)]) (fun m => by first | (simp [entryFrame, mkF, argsToLocals, Value.category]; done) | rfl) ?_
  intro κ D
  refine Go.iloadN D (pc' := 1) d26_0 rfl rfl ?_
  refine Go.ldcInt D (pc' := 3) (hw _ (List.mem_of_getElem? (i := 122) rfl)) d26_1 rfl ?_
  refine Go.icmp D (pc' := 10) (pc2 := 6) d26_3 (by decide) (by decide) rfl ?_ ?_
  · intro (hc3 : x < (65536 : Int32))
    refine Go.iconst D (pc' := 11) d26_10 rfl (v := (1 : Int32)) rfl ?_
    refine Go.iret D rfl d26_11 (by decide) (by decide) ?_
    exact ⟨rfl, rfl, rfl⟩
  · intro (hc3 : ¬ x < (65536 : Int32))
    exact absurd hx hc3
abbrev y24 : MethodName := ⟨"com/example/ticks_into_totals/ticksintototals/CounterName", "pairsEverySurrogate", "(Ljava/lang/String;)Z"⟩
theorem d24_0 : decode prog_3_method_8_code 0 = .ok (.iconst 0, 1) := by decide +kernel
theorem d24_1 : decode prog_3_method_8_code 1 = .ok (.istore_n 1, 1) := by decide +kernel
theorem d24_2 : decode prog_3_method_8_code 2 = .ok (.iload_n 1, 1) := by decide +kernel
theorem d24_3 : decode prog_3_method_8_code 3 = .ok (.aload_n 0, 1) := by decide +kernel
theorem d24_4 : decode prog_3_method_8_code 4 = .ok (.invokevirtual 49, 3) := by decide +kernel
theorem d24_7 : decode prog_3_method_8_code 7 = .ok (.if_icmp .ge 33, 3) := by decide +kernel
theorem d24_10 : decode prog_3_method_8_code 10 = .ok (.aload_n 0, 1) := by decide +kernel
theorem d24_11 : decode prog_3_method_8_code 11 = .ok (.iload_n 1, 1) := by decide +kernel
theorem d24_12 : decode prog_3_method_8_code 12 = .ok (.invokevirtual 106, 3) := by decide +kernel
theorem d24_15 : decode prog_3_method_8_code 15 = .ok (.istore_n 2, 1) := by decide +kernel
theorem d24_16 : decode prog_3_method_8_code 16 = .ok (.iload_n 2, 1) := by decide +kernel
theorem d24_17 : decode prog_3_method_8_code 17 = .ok (.ldc 112, 2) := by decide +kernel
theorem d24_19 : decode prog_3_method_8_code 19 = .ok (.if_icmp .lt 11, 3) := by decide +kernel
theorem d24_22 : decode prog_3_method_8_code 22 = .ok (.iload_n 2, 1) := by decide +kernel
theorem d24_23 : decode prog_3_method_8_code 23 = .ok (.ldc 113, 2) := by decide +kernel
theorem d24_25 : decode prog_3_method_8_code 25 = .ok (.if_icmp .gt 5, 3) := by decide +kernel
theorem d24_28 : decode prog_3_method_8_code 28 = .ok (.iconst 0, 1) := by decide +kernel
theorem d24_29 : decode prog_3_method_8_code 29 = .ok (.ireturn, 1) := by decide +kernel
theorem d24_30 : decode prog_3_method_8_code 30 = .ok (.iload_n 1, 1) := by decide +kernel
theorem d24_31 : decode prog_3_method_8_code 31 = .ok (.iload_n 2, 1) := by decide +kernel
theorem d24_32 : decode prog_3_method_8_code 32 = .ok (.invokestatic 114, 3) := by decide +kernel
theorem d24_35 : decode prog_3_method_8_code 35 = .ok (.iadd, 1) := by decide +kernel
theorem d24_36 : decode prog_3_method_8_code 36 = .ok (.istore_n 1, 1) := by decide +kernel
theorem d24_37 : decode prog_3_method_8_code 37 = .ok (.goto (-35), 3) := by decide +kernel
theorem d24_40 : decode prog_3_method_8_code 40 = .ok (.iconst 1, 1) := by decide +kernel
theorem d24_41 : decode prog_3_method_8_code 41 = .ok (.ireturn, 1) := by decide +kernel
theorem pd24 : parseMethodDescriptor "(Ljava/lang/String;)Z" = some ⟨[(.object "java/lang/String")], (some .boolean)⟩ := by decide +kernel
theorem pn24 : plainFor y24 = true := by first | exact plainFor_of_name (by first | (simp [plainName, overriddenIn]; done) | decide +kernel) | decide +kernel | rfl
set_option maxRecDepth 65536 in
set_option maxHeartbeats 40000000 in
theorem con_pairs (l : Launch) (Z : State) (a0 : Array Value) (hw : ∀ d ∈ tables_1, d.before a0 Z = true) (h0 : Heap) (n0 : Nat) (σ : Sg) (s : Addr) (cs : List Int32) (S : Str Z h0 s cs) (cz : Int32) (hcz : ¬ cz = 0) (O2 : Sta Z Z.heap "java/lang/String" "COMPACT_STRINGS" "Z" (.int cz)) (fm : Value) (rf : fm.isRef = true) (O4 : Sta Z Z.heap "jdk/internal/util/Preconditions" "SIOOBE_FORMATTER" "Ljava/util/function/BiFunction;" fm) :
    Con l Z y24 prog_3_method_8_code 3 ((some .boolean)) ({ frames := 3, cells := 0, slots := 0, locals := 70 } : Room) [] #[(.ref s)] σ h0 n0 (fun v h τ => h0 = h ∧ σ = τ ∧ v = some (.int 1)) := by
  refine Con.of_go pn24 (ls := #[.val (.ref s), .unset, .unset]) (fun m => by first | (simp [entryFrame, mkF, argsToLocals, Value.category]; done) | rfl) ?_
  intro κ D
  have hl := S.2.2
  have loop : ∀ (N i : Nat) (s2 : Slot), cs.length - i = N → i ≤ cs.length → (s2 = .unset ∨ ∃ w, s2 = .val w ∧ w.category = 1) → Go κ σ h0 0 0 2 #[.val (.ref s), .val (.int (Int32.ofNat i)), s2] [] := by
    intro N
    induction N using Nat.strongRecOn with
    | _ N ih =>
      intro i s2 hN hi0 hs2
      refine Go.iloadN D (pc' := 3) d24_2 rfl rfl ?_
      refine Go.aloadN D (pc' := 4) d24_3 rfl rfl rfl ?_
      refine Go.callV D (argsL := []) (rest := [(.int (Int32.ofNat i))]) (pc' := 7) (ce' := 0) (sl' := 0) (con_slen l Z a0 hw h0 n0 σ s cs S cz hcz O2) (hw _ (List.mem_of_getElem? (i := 66) rfl)) (hw _ (List.mem_of_getElem? (i := 67) rfl)) (hw _ (List.mem_of_getElem? (i := 69) rfl)) (hw _ (List.mem_of_getElem? (i := 68) rfl)) (hw _ (List.mem_of_getElem? (i := 15) rfl)) (hw _ (List.mem_of_getElem? (i := 70) rfl)) (nfS (hw _ (List.mem_of_getElem? (i := 69) rfl))) (by decide) S.1.1 d24_4 rfl pd14 rfl rfl rfl (by decide) (W := 1) rfl (by decide) (by decide) (by decide) (by decide) (by decide) ?_
      intro v4 h4 σ4 q4
      obtain ⟨rfl, rfl, rfl⟩ := q4
      show Go κ σ h0 0 0 7 #[.val (.ref s), .val (.int (Int32.ofNat i)), s2] [(.int (Int32.ofNat cs.length)), (.int (Int32.ofNat i))]
      refine Go.icmp D (pc' := 40) (pc2 := 10) d24_7 (by decide) (by decide) rfl ?_ ?_
      · intro (hc7 : ¬ (Int32.ofNat i) < (Int32.ofNat cs.length))
        refine Go.iconst D (pc' := 41) d24_40 rfl (v := (1 : Int32)) rfl ?_
        refine Go.zret D rfl rfl d24_41 (by decide) (by decide) ?_
        exact ⟨rfl, rfl, rfl⟩
      · intro (hc7 : (Int32.ofNat i) < (Int32.ofNat cs.length))
        have hi : i < cs.length := (own_lt (by omega) (by omega)).mp hc7
        refine Go.aloadN D (pc' := 11) d24_10 rfl rfl rfl ?_
        refine Go.iloadN D (pc' := 12) d24_11 rfl rfl ?_
        refine Go.callV D (argsL := [(.int (Int32.ofNat i))]) (rest := []) (pc' := 15) (ce' := 0) (sl' := 0) (con_cpa l Z a0 hw h0 n0 σ s cs S i hi cz hcz O2 fm rf O4) (hw _ (List.mem_of_getElem? (i := 111) rfl)) (hw _ (List.mem_of_getElem? (i := 112) rfl)) (hw _ (List.mem_of_getElem? (i := 114) rfl)) (hw _ (List.mem_of_getElem? (i := 113) rfl)) (hw _ (List.mem_of_getElem? (i := 15) rfl)) (hw _ (List.mem_of_getElem? (i := 115) rfl)) (nfS (hw _ (List.mem_of_getElem? (i := 114) rfl))) (by decide) S.1.1 d24_12 rfl pd25 rfl rfl rfl (by decide) (W := 0) rfl (by decide) (by decide) (by decide) (by decide) (by decide) ?_
        intro v12 h12 σ12 q12
        obtain ⟨rfl, rfl, rfl⟩ := q12
        show Go κ σ h0 0 0 15 #[.val (.ref s), .val (.int (Int32.ofNat i)), s2] [(.int cs[i])]
        refine Go.istoreNU D (pc' := 16) d24_15 rfl rfl hs2 (ls' := #[.val (.ref s), .val (.int (Int32.ofNat i)), .val (.int cs[i])]) rfl ?_
        refine Go.iloadN D (pc' := 17) d24_16 rfl rfl ?_
        refine Go.ldcInt D (pc' := 19) (hw _ (List.mem_of_getElem? (i := 117) rfl)) d24_17 rfl ?_
        refine Go.icmp D (pc' := 30) (pc2 := 22) d24_19 (by decide) (by decide) rfl ?_ ?_
        · intro (hc19 : cs[i] < (55296 : Int32))
          refine Go.iloadN D (pc' := 31) d24_30 rfl rfl ?_
          refine Go.iloadN D (pc' := 32) d24_31 rfl rfl ?_
          refine Go.callS D (argsL := [(.int cs[i])]) (rest := [(.int (Int32.ofNat i))]) (pc' := 35) (ce' := 0) (sl' := 0) (con_cct l Z a0 hw h0 n0 σ cs[i] (Int32.lt_trans (S.2.1 _ (List.getElem_mem hi)).2 (by decide))) (hw _ (List.mem_of_getElem? (i := 118) rfl)) (hw _ (List.mem_of_getElem? (i := 119) rfl)) (hw _ (List.mem_of_getElem? (i := 120) rfl)) (hw _ (List.mem_of_getElem? (i := 121) rfl)) (by decide) d24_32 rfl pd26 rfl rfl rfl (by decide) (W := 1) rfl (by decide) (by decide) (by decide) (by decide) (by decide) ?_
          intro v32 h32 σ32 q32
          obtain ⟨rfl, rfl, rfl⟩ := q32
          show Go κ σ h0 0 0 35 #[.val (.ref s), .val (.int (Int32.ofNat i)), .val (.int cs[i])] [(.int (1 : Int32)), (.int (Int32.ofNat i))]
          refine Go.iadd D (pc' := 36) d24_35 rfl  ?_
          refine Go.istoreN D (pc' := 37) d24_36 rfl (ls' := #[.val (.ref s), .val (.int ((Int32.ofNat i) + (1 : Int32))), .val (.int cs[i])]) rfl ?_
          refine Go.goto D (pc' := 2) d24_37 (by decide) (by decide) ?_
          rw [own_succ]
          exact ih (cs.length - (i + 1)) (by omega) (i + 1) _ rfl (by omega) (Or.inr ⟨_, rfl, rfl⟩)
        · intro (hc19 : ¬ cs[i] < (55296 : Int32))
          exact absurd (Int32.lt_trans (S.2.1 _ (List.getElem_mem hi)).2 (by decide)) hc19
  refine Go.iconst D (pc' := 1) d24_0 rfl (v := (0 : Int32)) rfl ?_
  refine Go.istoreN D (pc' := 2) d24_1 rfl (ls' := #[.val (.ref s), .val (.int (0 : Int32)), .unset]) rfl ?_
  exact loop (cs.length - 0) 0 _ rfl (by omega) (Or.inl rfl)
abbrev y32 : MethodName := ⟨"com/example/ticks_into_totals/ticksintototals/CounterName", "hasControlCharacter", "(Ljava/lang/String;)Z"⟩
theorem d32_0 : decode prog_3_method_9_code 0 = .ok (.iconst 0, 1) := by decide +kernel
theorem d32_1 : decode prog_3_method_9_code 1 = .ok (.istore_n 1, 1) := by decide +kernel
theorem d32_2 : decode prog_3_method_9_code 2 = .ok (.iload_n 1, 1) := by decide +kernel
theorem d32_3 : decode prog_3_method_9_code 3 = .ok (.aload_n 0, 1) := by decide +kernel
theorem d32_4 : decode prog_3_method_9_code 4 = .ok (.invokevirtual 49, 3) := by decide +kernel
theorem d32_7 : decode prog_3_method_9_code 7 = .ok (.if_icmp .ge 29, 3) := by decide +kernel
theorem d32_10 : decode prog_3_method_9_code 10 = .ok (.aload_n 0, 1) := by decide +kernel
theorem d32_11 : decode prog_3_method_9_code 11 = .ok (.iload_n 1, 1) := by decide +kernel
theorem d32_12 : decode prog_3_method_9_code 12 = .ok (.invokevirtual 75, 3) := by decide +kernel
theorem d32_15 : decode prog_3_method_9_code 15 = .ok (.istore_n 2, 1) := by decide +kernel
theorem d32_16 : decode prog_3_method_9_code 16 = .ok (.iload_n 2, 1) := by decide +kernel
theorem d32_17 : decode prog_3_method_9_code 17 = .ok (.bipush 32, 2) := by decide +kernel
theorem d32_19 : decode prog_3_method_9_code 19 = .ok (.if_icmp .lt 9, 3) := by decide +kernel
theorem d32_22 : decode prog_3_method_9_code 22 = .ok (.iload_n 2, 1) := by decide +kernel
theorem d32_23 : decode prog_3_method_9_code 23 = .ok (.bipush 127, 2) := by decide +kernel
theorem d32_25 : decode prog_3_method_9_code 25 = .ok (.if_icmp .ne 5, 3) := by decide +kernel
theorem d32_28 : decode prog_3_method_9_code 28 = .ok (.iconst 1, 1) := by decide +kernel
theorem d32_29 : decode prog_3_method_9_code 29 = .ok (.ireturn, 1) := by decide +kernel
theorem d32_30 : decode prog_3_method_9_code 30 = .ok (.iinc 1 1, 3) := by decide +kernel
theorem d32_33 : decode prog_3_method_9_code 33 = .ok (.goto (-31), 3) := by decide +kernel
theorem d32_36 : decode prog_3_method_9_code 36 = .ok (.iconst 0, 1) := by decide +kernel
theorem d32_37 : decode prog_3_method_9_code 37 = .ok (.ireturn, 1) := by decide +kernel
theorem pd32 : parseMethodDescriptor "(Ljava/lang/String;)Z" = some ⟨[(.object "java/lang/String")], (some .boolean)⟩ := by decide +kernel
theorem pn32 : plainFor y32 = true := by first | exact plainFor_of_name (by first | (simp [plainName, overriddenIn]; done) | decide +kernel) | decide +kernel | rfl
set_option maxRecDepth 65536 in
set_option maxHeartbeats 40000000 in
theorem con_ctrl (l : Launch) (Z : State) (a0 : Array Value) (hw : ∀ d ∈ tables_1, d.before a0 Z = true) (h0 : Heap) (n0 : Nat) (σ : Sg) (s : Addr) (cs : List Int32) (S : Str Z h0 s cs) (hid : ∀ c ∈ cs, IdC c) (cz : Int32) (hcz : ¬ cz = 0) (O2 : Sta Z Z.heap "java/lang/String" "COMPACT_STRINGS" "Z" (.int cz)) (fm : Value) (rf : fm.isRef = true) (O4 : Sta Z Z.heap "jdk/internal/util/Preconditions" "SIOOBE_FORMATTER" "Ljava/util/function/BiFunction;" fm) :
    Con l Z y32 prog_3_method_9_code 3 ((some .boolean)) ({ frames := 4, cells := 0, slots := 0, locals := 70 } : Room) [] #[(.ref s)] σ h0 n0 (fun v h τ => h0 = h ∧ σ = τ ∧ v = some (.int 0)) := by
  refine Con.of_go pn32 (ls := #[.val (.ref s), .unset, .unset]) (fun m => by first | (simp [entryFrame, mkF, argsToLocals, Value.category]; done) | rfl) ?_
  intro κ D
  have hl := S.2.2
  have loop : ∀ (N i : Nat) (s2 : Slot), cs.length - i = N → i ≤ cs.length → (s2 = .unset ∨ ∃ w, s2 = .val w ∧ w.category = 1) → Go κ σ h0 0 0 2 #[.val (.ref s), .val (.int (Int32.ofNat i)), s2] [] := by
    intro N
    induction N using Nat.strongRecOn with
    | _ N ih =>
      intro i s2 hN hi0 hs2
      refine Go.iloadN D (pc' := 3) d32_2 rfl rfl ?_
      refine Go.aloadN D (pc' := 4) d32_3 rfl rfl rfl ?_
      refine Go.callV D (argsL := []) (rest := [(.int (Int32.ofNat i))]) (pc' := 7) (ce' := 0) (sl' := 0) (con_slen l Z a0 hw h0 n0 σ s cs S cz hcz O2) (hw _ (List.mem_of_getElem? (i := 66) rfl)) (hw _ (List.mem_of_getElem? (i := 67) rfl)) (hw _ (List.mem_of_getElem? (i := 69) rfl)) (hw _ (List.mem_of_getElem? (i := 68) rfl)) (hw _ (List.mem_of_getElem? (i := 15) rfl)) (hw _ (List.mem_of_getElem? (i := 70) rfl)) (nfS (hw _ (List.mem_of_getElem? (i := 69) rfl))) (by decide) S.1.1 d32_4 rfl pd14 rfl rfl rfl (by decide) (W := 1) rfl (by decide) (by decide) (by decide) (by decide) (by decide) ?_
      intro v4 h4 σ4 q4
      obtain ⟨rfl, rfl, rfl⟩ := q4
      show Go κ σ h0 0 0 7 #[.val (.ref s), .val (.int (Int32.ofNat i)), s2] [(.int (Int32.ofNat cs.length)), (.int (Int32.ofNat i))]
      refine Go.icmp D (pc' := 36) (pc2 := 10) d32_7 (by decide) (by decide) rfl ?_ ?_
      · intro (hc7 : ¬ (Int32.ofNat i) < (Int32.ofNat cs.length))
        refine Go.iconst D (pc' := 37) d32_36 rfl (v := (0 : Int32)) rfl ?_
        refine Go.zret D rfl rfl d32_37 (by decide) (by decide) ?_
        exact ⟨rfl, rfl, rfl⟩
      · intro (hc7 : (Int32.ofNat i) < (Int32.ofNat cs.length))
        have hi : i < cs.length := (own_lt (by omega) (by omega)).mp hc7
        refine Go.aloadN D (pc' := 11) d32_10 rfl rfl rfl ?_
        refine Go.iloadN D (pc' := 12) d32_11 rfl rfl ?_
        refine Go.callV D (argsL := [(.int (Int32.ofNat i))]) (rest := []) (pc' := 15) (ce' := 0) (sl' := 0) (con_chAt l Z a0 hw h0 n0 σ s cs S i hi cz hcz O2 fm rf O4) (hw _ (List.mem_of_getElem? (i := 79) rfl)) (hw _ (List.mem_of_getElem? (i := 80) rfl)) (hw _ (List.mem_of_getElem? (i := 82) rfl)) (hw _ (List.mem_of_getElem? (i := 81) rfl)) (hw _ (List.mem_of_getElem? (i := 15) rfl)) (hw _ (List.mem_of_getElem? (i := 83) rfl)) (nfS (hw _ (List.mem_of_getElem? (i := 82) rfl))) (by decide) S.1.1 d32_12 rfl pd17 rfl rfl rfl (by decide) (W := 0) rfl (by decide) (by decide) (by decide) (by decide) (by decide) ?_
        intro v12 h12 σ12 q12
        obtain ⟨rfl, rfl, rfl⟩ := q12
        show Go κ σ h0 0 0 15 #[.val (.ref s), .val (.int (Int32.ofNat i)), s2] [(.int cs[i])]
        refine Go.istoreNU D (pc' := 16) d32_15 rfl rfl hs2 (ls' := #[.val (.ref s), .val (.int (Int32.ofNat i)), .val (.int cs[i])]) rfl ?_
        refine Go.iloadN D (pc' := 17) d32_16 rfl rfl ?_
        refine Go.bipush D (pc' := 19) d32_17 rfl (v := (32 : Int32)) rfl ?_
        refine Go.icmp D (pc' := 28) (pc2 := 22) d32_19 (by decide) (by decide) rfl ?_ ?_
        · intro (hc19 : cs[i] < (32 : Int32))
          exact absurd hc19 (hid _ (List.getElem_mem hi)).1
        · intro (hc19 : ¬ cs[i] < (32 : Int32))
          refine Go.iloadN D (pc' := 23) d32_22 rfl rfl ?_
          refine Go.bipush D (pc' := 25) d32_23 rfl (v := (127 : Int32)) rfl ?_
          refine Go.icmp D (pc' := 30) (pc2 := 28) d32_25 (by decide) (by decide) rfl ?_ ?_
          · intro (hc25 : ¬ cs[i] = (127 : Int32))
            refine Go.iinc D (pc' := 33) d32_30 rfl rfl (d := (1 : Int32)) rfl (ls' := #[.val (.ref s), .val (.int ((Int32.ofNat i) + (1 : Int32))), .val (.int cs[i])]) rfl ?_
            refine Go.goto D (pc' := 2) d32_33 (by decide) (by decide) ?_
            rw [own_succ]
            exact ih (cs.length - (i + 1)) (by omega) (i + 1) _ rfl (by omega) (Or.inr ⟨_, rfl, rfl⟩)
          · intro (hc25 : cs[i] = (127 : Int32))
            exact absurd hc25 (hid _ (List.getElem_mem hi)).2.2
  refine Go.iconst D (pc' := 1) d32_0 rfl (v := (0 : Int32)) rfl ?_
  refine Go.istoreN D (pc' := 2) d32_1 rfl (ls' := #[.val (.ref s), .val (.int (0 : Int32)), .unset]) rfl ?_
  exact loop (cs.length - 0) 0 _ rfl (by omega) (Or.inl rfl)
abbrev y31 : MethodName := ⟨"java/lang/StringCoding", "countPositives", "([BII)I"⟩
theorem d31_0 : decode jdk_123_method_3_code 0 = .ok (.iload_n 1, 1) := by decide +kernel
theorem d31_1 : decode jdk_123_method_3_code 1 = .ok (.iload_n 2, 1) := by decide +kernel
theorem d31_2 : decode jdk_123_method_3_code 2 = .ok (.iadd, 1) := by decide +kernel
theorem d31_3 : decode jdk_123_method_3_code 3 = .ok (.istore_n 3, 1) := by decide +kernel
theorem d31_4 : decode jdk_123_method_3_code 4 = .ok (.iload_n 1, 1) := by decide +kernel
theorem d31_5 : decode jdk_123_method_3_code 5 = .ok (.istore 4, 2) := by decide +kernel
theorem d31_7 : decode jdk_123_method_3_code 7 = .ok (.iload 4, 2) := by decide +kernel
theorem d31_9 : decode jdk_123_method_3_code 9 = .ok (.iload_n 3, 1) := by decide +kernel
theorem d31_10 : decode jdk_123_method_3_code 10 = .ok (.if_icmp .ge 21, 3) := by decide +kernel
theorem d31_13 : decode jdk_123_method_3_code 13 = .ok (.aload_n 0, 1) := by decide +kernel
theorem d31_14 : decode jdk_123_method_3_code 14 = .ok (.iload 4, 2) := by decide +kernel
theorem d31_16 : decode jdk_123_method_3_code 16 = .ok (.baload, 1) := by decide +kernel
theorem d31_17 : decode jdk_123_method_3_code 17 = .ok (.ifCond .ge 8, 3) := by decide +kernel
theorem d31_20 : decode jdk_123_method_3_code 20 = .ok (.iload 4, 2) := by decide +kernel
theorem d31_22 : decode jdk_123_method_3_code 22 = .ok (.iload_n 1, 1) := by decide +kernel
theorem d31_23 : decode jdk_123_method_3_code 23 = .ok (.isub, 1) := by decide +kernel
theorem d31_24 : decode jdk_123_method_3_code 24 = .ok (.ireturn, 1) := by decide +kernel
theorem d31_25 : decode jdk_123_method_3_code 25 = .ok (.iinc 4 1, 3) := by decide +kernel
theorem d31_28 : decode jdk_123_method_3_code 28 = .ok (.goto (-21), 3) := by decide +kernel
theorem d31_31 : decode jdk_123_method_3_code 31 = .ok (.iload_n 2, 1) := by decide +kernel
theorem d31_32 : decode jdk_123_method_3_code 32 = .ok (.ireturn, 1) := by decide +kernel
theorem pd31 : parseMethodDescriptor "([BII)I" = some ⟨[(.array .byte), .int, .int], (some .int)⟩ := by decide +kernel
theorem pn31 : plainFor y31 = true := by first | exact plainFor_of_name (by first | (simp [plainName, overriddenIn]; done) | decide +kernel) | decide +kernel | rfl
set_option maxRecDepth 65536 in
set_option maxHeartbeats 40000000 in
theorem con_cpos (l : Launch) (Z : State) (a0 : Array Value) (hw : ∀ d ∈ tables_1, d.before a0 Z = true) (h0 : Heap) (n0 : Nat) (σ : Sg) (b : Addr) (kb : ClassId) (cs : List Int32) (B : Arv Z h0 b kb .byte (Int32.ofNat cs.length) (bv cs) (.int 0)) (hp : Lat cs) :
    Con l Z y31 jdk_123_method_3_code 5 ((some .int)) ({ frames := 0, cells := 0, slots := 0, locals := 0 } : Room) [] #[(.ref b), (.int (0 : Int32)), (.int (Int32.ofNat cs.length))] σ h0 n0 (fun v h τ => h0 = h ∧ σ = τ ∧ ∃ r, v = some (.int r)) := by
  refine Con.of_go pn31 (ls := #[.val (.ref b), .val (.int (0 : Int32)), .val (.int (Int32.ofNat cs.length)), .unset, .unset]) (fun m => by first | (simp [entryFrame, mkF, argsToLocals, Value.category]; done) | rfl) ?_
  intro κ D
  have hl := hp.2
  have loop : ∀ (N i : Nat), cs.length - i = N → i ≤ cs.length → Go κ σ h0 0 0 7 #[.val (.ref b), .val (.int (0 : Int32)), .val (.int (Int32.ofNat cs.length)), .val (.int (Int32.ofNat cs.length)), .val (.int (Int32.ofNat i))] [] := by
    intro N
    induction N using Nat.strongRecOn with
    | _ N ih =>
      intro i hN hi0
      refine Go.iload D (pc' := 9) d31_7 rfl rfl ?_
      refine Go.iloadN D (pc' := 10) d31_9 rfl rfl ?_
      refine Go.icmp D (pc' := 31) (pc2 := 13) d31_10 (by decide) (by decide) rfl ?_ ?_
      · intro (hc10 : ¬ (Int32.ofNat i) < (Int32.ofNat cs.length))
        refine Go.iloadN D (pc' := 32) d31_31 rfl rfl ?_
        refine Go.iret D rfl d31_32 (by decide) (by decide) ?_
        exact ⟨rfl, rfl, _, rfl⟩
      · intro (hc10 : (Int32.ofNat i) < (Int32.ofNat cs.length))
        have hi : i < cs.length := (own_lt (by omega) (by omega)).mp hc10
        refine Go.aloadN D (pc' := 14) d31_13 rfl rfl rfl ?_
        refine Go.iload D (pc' := 16) d31_14 rfl rfl ?_
        refine Go.baload D (pc' := 17) d31_16 rfl B (own_nn (by omega)) ((own_lt (by omega) (by omega)).mpr hi) (v := .int (cs[i].toInt8.toInt32)) (by rw [own_tn (by omega)]; exact bv_at hi _) ?_
        refine Go.ifc D (pc' := 25) (pc2 := 20) d31_17 (by decide) (by decide) rfl ?_ ?_
        · intro (hc17 : ¬ (cs[i].toInt8.toInt32) < 0)
          refine Go.iinc D (pc' := 28) d31_25 rfl rfl (d := (1 : Int32)) rfl (ls' := #[.val (.ref b), .val (.int (0 : Int32)), .val (.int (Int32.ofNat cs.length)), .val (.int (Int32.ofNat cs.length)), .val (.int ((Int32.ofNat i) + (1 : Int32)))]) rfl ?_
          refine Go.goto D (pc' := 7) d31_28 (by decide) (by decide) ?_
          rw [own_succ]
          exact ih (cs.length - (i + 1)) (by omega) (i + 1) rfl (by omega)
        · intro (hc17 : (cs[i].toInt8.toInt32) < 0)
          refine Go.iload D (pc' := 22) d31_20 rfl rfl ?_
          refine Go.iloadN D (pc' := 23) d31_22 rfl rfl ?_
          refine Go.isub D (pc' := 24) d31_23 rfl  ?_
          refine Go.iret D rfl d31_24 (by decide) (by decide) ?_
          exact ⟨rfl, rfl, _, rfl⟩
  refine Go.iloadN D (pc' := 1) d31_0 rfl rfl ?_
  refine Go.iloadN D (pc' := 2) d31_1 rfl rfl ?_
  refine Go.iadd D (pc' := 3) d31_2 rfl  ?_
  rw [Int32.zero_add]
  refine Go.istoreN D (pc' := 4) d31_3 rfl (ls' := #[.val (.ref b), .val (.int (0 : Int32)), .val (.int (Int32.ofNat cs.length)), .val (.int (Int32.ofNat cs.length)), .unset]) rfl ?_
  refine Go.iloadN D (pc' := 5) d31_4 rfl rfl ?_
  refine Go.istore D (pc' := 7) d31_5 rfl (ls' := #[.val (.ref b), .val (.int (0 : Int32)), .val (.int (Int32.ofNat cs.length)), .val (.int (Int32.ofNat cs.length)), .val (.int (0 : Int32))]) rfl ?_
  exact loop (cs.length - 0) 0 rfl (by omega)
abbrev y30 : MethodName := ⟨"java/lang/StringCoding", "hasNegatives", "([BII)Z"⟩
theorem d30_0 : decode jdk_123_method_2_code 0 = .ok (.aload_n 0, 1) := by decide +kernel
theorem d30_1 : decode jdk_123_method_2_code 1 = .ok (.iload_n 1, 1) := by decide +kernel
theorem d30_2 : decode jdk_123_method_2_code 2 = .ok (.iload_n 2, 1) := by decide +kernel
theorem d30_3 : decode jdk_123_method_2_code 3 = .ok (.invokestatic 7, 3) := by decide +kernel
theorem d30_6 : decode jdk_123_method_2_code 6 = .ok (.iload_n 2, 1) := by decide +kernel
theorem d30_7 : decode jdk_123_method_2_code 7 = .ok (.if_icmp .eq 7, 3) := by decide +kernel
theorem d30_10 : decode jdk_123_method_2_code 10 = .ok (.iconst 1, 1) := by decide +kernel
theorem d30_11 : decode jdk_123_method_2_code 11 = .ok (.goto 4, 3) := by decide +kernel
theorem d30_14 : decode jdk_123_method_2_code 14 = .ok (.iconst 0, 1) := by decide +kernel
theorem d30_15 : decode jdk_123_method_2_code 15 = .ok (.ireturn, 1) := by decide +kernel
theorem pd30 : parseMethodDescriptor "([BII)Z" = some ⟨[(.array .byte), .int, .int], (some .boolean)⟩ := by decide +kernel
theorem pn30 : plainFor y30 = true := by first | exact plainFor_of_name (by first | (simp [plainName, overriddenIn]; done) | decide +kernel) | decide +kernel | rfl
set_option maxRecDepth 65536 in
set_option maxHeartbeats 40000000 in
theorem con_hneg (l : Launch) (Z : State) (a0 : Array Value) (hw : ∀ d ∈ tables_1, d.before a0 Z = true) (h0 : Heap) (n0 : Nat) (σ : Sg) (b : Addr) (kb : ClassId) (cs : List Int32) (B : Arv Z h0 b kb .byte (Int32.ofNat cs.length) (bv cs) (.int 0)) (hp : Lat cs) :
    Con l Z y30 jdk_123_method_2_code 3 ((some .boolean)) ({ frames := 1, cells := 0, slots := 0, locals := 20 } : Room) [] #[(.ref b), (.int (0 : Int32)), (.int (Int32.ofNat cs.length))] σ h0 n0 (fun v h τ => h0 = h ∧ σ = τ ∧ ∃ r, v = some (.int r)) := by
  refine Con.of_go pn30 (ls := #[.val (.ref b), .val (.int (0 : Int32)), .val (.int (Int32.ofNat cs.length))]) (fun m => by first | (simp [entryFrame, mkF, argsToLocals, Value.category]; done) | rfl) ?_
  intro κ D
  refine Go.aloadN D (pc' := 1) d30_0 rfl rfl rfl ?_
  refine Go.iloadN D (pc' := 2) d30_1 rfl rfl ?_
  refine Go.iloadN D (pc' := 3) d30_2 rfl rfl ?_
  refine Go.callS D (argsL := [(.ref b), (.int (0 : Int32)), (.int (Int32.ofNat cs.length))]) (rest := []) (pc' := 6) (ce' := 0) (sl' := 0) (con_cpos l Z a0 hw h0 n0 σ b kb cs B hp) (hw _ (List.mem_of_getElem? (i := 142) rfl)) (hw _ (List.mem_of_getElem? (i := 143) rfl)) (hw _ (List.mem_of_getElem? (i := 140) rfl)) (hw _ (List.mem_of_getElem? (i := 144) rfl)) (by decide) d30_3 rfl pd31 rfl rfl rfl (by decide) (W := 0) rfl (by decide) (by decide) (by decide) (by decide) (by decide) ?_
  intro v3 h3 σ3 q3
  obtain ⟨rfl, rfl, r, rfl⟩ := q3
  show Go κ σ h0 0 0 6 #[.val (.ref b), .val (.int (0 : Int32)), .val (.int (Int32.ofNat cs.length))] [(.int r)]
  refine Go.iloadN D (pc' := 7) d30_6 rfl rfl ?_
  refine Go.icmp D (pc' := 14) (pc2 := 10) d30_7 (by decide) (by decide) rfl ?_ ?_
  · intro (hc7 : r = (Int32.ofNat cs.length))
    refine Go.iconst D (pc' := 15) d30_14 rfl (v := (0 : Int32)) rfl ?_
    refine Go.zret D rfl rfl d30_15 (by decide) (by decide) ?_
    exact ⟨rfl, rfl, _, rfl⟩
  · intro (hc7 : ¬ r = (Int32.ofNat cs.length))
    refine Go.iconst D (pc' := 11) d30_10 rfl (v := (1 : Int32)) rfl ?_
    refine Go.goto D (pc' := 15) d30_11 (by decide) (by decide) ?_
    refine Go.zret D rfl rfl d30_15 (by decide) (by decide) ?_
    exact ⟨rfl, rfl, _, rfl⟩
theorem shl_tab : ∀ i : Fin 65, (Int32.ofNat i.1 <<< ((1 : Int32) &&& 31)) = Int32.ofNat (2 * i.1) := by decide
theorem own_shl1 {k : Nat} (hk : k ≤ 64) : (Int32.ofNat k <<< ((1 : Int32) &&& 31)) = Int32.ofNat (2 * k) := shl_tab ⟨k, by omega⟩
abbrev y42 : MethodName := ⟨"java/lang/StringUTF16", "newBytesLength", "(I)I"⟩
theorem d42_0 : decode jdk_52_method_3_code 0 = .ok (.iload_n 0, 1) := by decide +kernel
theorem d42_1 : decode jdk_52_method_3_code 1 = .ok (.ifCond .ge 11, 3) := by decide +kernel
theorem d42_12 : decode jdk_52_method_3_code 12 = .ok (.iload_n 0, 1) := by decide +kernel
theorem d42_13 : decode jdk_52_method_3_code 13 = .ok (.ldc 20, 2) := by decide +kernel
theorem d42_15 : decode jdk_52_method_3_code 15 = .ok (.if_icmp .lt 40, 3) := by decide +kernel
theorem d42_55 : decode jdk_52_method_3_code 55 = .ok (.iload_n 0, 1) := by decide +kernel
theorem d42_56 : decode jdk_52_method_3_code 56 = .ok (.iconst 1, 1) := by decide +kernel
theorem d42_57 : decode jdk_52_method_3_code 57 = .ok (.ishl, 1) := by decide +kernel
theorem d42_58 : decode jdk_52_method_3_code 58 = .ok (.ireturn, 1) := by decide +kernel
theorem pd42 : parseMethodDescriptor "(I)I" = some ⟨[.int], (some .int)⟩ := by decide +kernel
theorem pn42 : plainFor y42 = true := by first | exact plainFor_of_name (by first | (simp [plainName, overriddenIn]; done) | decide +kernel) | decide +kernel | rfl
set_option maxRecDepth 65536 in
set_option maxHeartbeats 40000000 in
theorem con_nbl (l : Launch) (Z : State) (a0 : Array Value) (hw : ∀ d ∈ tables_1, d.before a0 Z = true) (h0 : Heap) (n0 : Nat) (σ : Sg) (k : Nat) (hk : k ≤ 64) :
    Con l Z y42 jdk_52_method_3_code 1 ((some .int)) ({ frames := 0, cells := 0, slots := 0, locals := 0 } : Room) [] #[(.int (Int32.ofNat k))] σ h0 n0 (fun v h τ => h0 = h ∧ σ = τ ∧ v = some (.int (Int32.ofNat (2 * k)))) := by
  refine Con.of_go pn42 (ls := #[.val (.int (Int32.ofNat k))]) (fun m => by first | (simp [entryFrame, mkF, argsToLocals, Value.category]; done) | rfl) ?_
  intro κ D
  refine Go.iloadN D (pc' := 1) d42_0 rfl rfl ?_
  refine Go.ifc D (pc' := 12) (pc2 := 4) d42_1 (by decide) (by decide) rfl ?_ ?_
  · intro (hc1 : ¬ (Int32.ofNat k) < 0)
    refine Go.iloadN D (pc' := 13) d42_12 rfl rfl ?_
    refine Go.ldcInt D (pc' := 15) (hw _ (List.mem_of_getElem? (i := 211) rfl)) d42_13 rfl ?_
    refine Go.icmp D (pc' := 55) (pc2 := 18) d42_15 (by decide) (by decide) rfl ?_ ?_
    · intro (hc15 : (Int32.ofNat k) < (1073741823 : Int32))
      refine Go.iloadN D (pc' := 56) d42_55 rfl rfl ?_
      refine Go.iconst D (pc' := 57) d42_56 rfl (v := (1 : Int32)) rfl ?_
      refine Go.ishl D (pc' := 58) d42_57 rfl  ?_
      rw [own_shl1 hk]
      refine Go.iret D rfl d42_58 (by decide) (by decide) ?_
      exact ⟨rfl, rfl, rfl⟩
    · intro (hc15 : ¬ (Int32.ofNat k) < (1073741823 : Int32))
      exact absurd ((own_lt (i := k) (j := 1073741823) (by omega) (by omega)).mpr (by omega)) hc15
  · intro (hc1 : (Int32.ofNat k) < 0)
    exact absurd hc1 (own_nn (by omega))
abbrev y41 : MethodName := ⟨"java/lang/StringUTF16", "newBytesFor", "(I)[B"⟩
theorem d41_0 : decode jdk_52_method_2_code 0 = .ok (.iload_n 0, 1) := by decide +kernel
theorem d41_1 : decode jdk_52_method_2_code 1 = .ok (.invokestatic 11, 3) := by decide +kernel
theorem d41_4 : decode jdk_52_method_2_code 4 = .ok (.newarray .byte, 2) := by decide +kernel
theorem d41_6 : decode jdk_52_method_2_code 6 = .ok (.areturn, 1) := by decide +kernel
theorem pd41 : parseMethodDescriptor "(I)[B" = some ⟨[.int], (some (.array .byte))⟩ := by decide +kernel
theorem pn41 : plainFor y41 = true := by first | exact plainFor_of_name (by first | (simp [plainName, overriddenIn]; done) | decide +kernel) | decide +kernel | rfl
set_option maxRecDepth 65536 in
set_option maxHeartbeats 40000000 in
theorem con_nbf (l : Launch) (Z : State) (a0 : Array Value) (hw : ∀ d ∈ tables_1, d.before a0 Z = true) (h0 : Heap) (n0 : Nat) (σ : Sg) (k : Nat) (hk : k ≤ 4) :
    Con l Z y41 jdk_52_method_2_code 1 ((some (.array .byte))) ({ frames := 1, cells := 1, slots := 8, locals := 14 } : Room) [] #[(.int (Int32.ofNat k))] σ h0 n0 (fun v h τ => σ = τ ∧ ∃ b kb, v = some (.ref b) ∧ h0.size ≤ b ∧ Ext h0 h ∧ Arv Z h b kb .byte (Int32.ofNat (2 * k)) (List.replicate (2 * k) (.int 0)) (.int 0)) := by
  refine Con.of_go pn41 (ls := #[.val (.int (Int32.ofNat k))]) (fun m => by first | (simp [entryFrame, mkF, argsToLocals, Value.category]; done) | rfl) ?_
  intro κ D
  refine Go.iloadN D (pc' := 1) d41_0 rfl rfl ?_
  refine Go.callS D (argsL := [(.int (Int32.ofNat k))]) (rest := []) (pc' := 4) (ce' := 0) (sl' := 0) (con_nbl l Z a0 hw h0 n0 σ k (by omega)) (hw _ (List.mem_of_getElem? (i := 208) rfl)) (hw _ (List.mem_of_getElem? (i := 209) rfl)) (hw _ (List.mem_of_getElem? (i := 29) rfl)) (hw _ (List.mem_of_getElem? (i := 210) rfl)) (by decide) d41_1 rfl pd42 rfl rfl rfl (by decide) (W := 0) rfl (by decide) (by decide) (by decide) (by decide) (by decide) ?_
  intro v1 h1 σ1 q1
  obtain ⟨rfl, rfl, rfl⟩ := q1
  show Go κ σ h0 0 0 4 #[.val (.int (Int32.ofNat k))] [(.int (Int32.ofNat (2 * k)))]
  refine Go.newP D (pc' := 6) (aty := .byte) (cap := 8) (ce' := 1) (sl' := 8) (hw _ (List.mem_of_getElem? (i := 31) rfl)) d41_4 rfl (own_nn (by omega)) (by rw [own_tn (by omega)]; omega) (by decide) rfl rfl (by decide) (by decide) ?_
  intro h1 b kb gb E1 B1
  refine Go.aret D rfl rfl rfl d41_6 (by decide) (by decide) ?_
  exact ⟨rfl, b, kb, rfl, by omega, E1, B1.pad (fun i => pad_rep [] (.int 0) (2 * k) i)⟩
abbrev y44 : MethodName := ⟨"java/lang/Math", "min", "(II)I"⟩
theorem d44_0 : decode jdk_29_method_69_code 0 = .ok (.iload_n 0, 1) := by decide +kernel
theorem d44_1 : decode jdk_29_method_69_code 1 = .ok (.iload_n 1, 1) := by decide +kernel
theorem d44_2 : decode jdk_29_method_69_code 2 = .ok (.if_icmp .gt 7, 3) := by decide +kernel
theorem d44_5 : decode jdk_29_method_69_code 5 = .ok (.iload_n 0, 1) := by decide +kernel
theorem d44_6 : decode jdk_29_method_69_code 6 = .ok (.goto 4, 3) := by decide +kernel
theorem d44_9 : decode jdk_29_method_69_code 9 = .ok (.iload_n 1, 1) := by decide +kernel
theorem d44_10 : decode jdk_29_method_69_code 10 = .ok (.ireturn, 1) := by decide +kernel
theorem pd44 : parseMethodDescriptor "(II)I" = some ⟨[.int, .int], (some .int)⟩ := by decide +kernel
theorem pn44 : plainFor y44 = true := by first | exact plainFor_of_name (by first | (simp [plainName, overriddenIn]; done) | decide +kernel) | decide +kernel | rfl
set_option maxRecDepth 65536 in
set_option maxHeartbeats 40000000 in
theorem con_min (l : Launch) (Z : State) (a0 : Array Value) (hw : ∀ d ∈ tables_1, d.before a0 Z = true) (h0 : Heap) (n0 : Nat) (σ : Sg) (x z : Int32) :
    Con l Z y44 jdk_29_method_69_code 2 ((some .int)) ({ frames := 0, cells := 0, slots := 0, locals := 0 } : Room) [] #[(.int x), (.int z)] σ h0 n0 (fun v h τ => h0 = h ∧ σ = τ ∧ ∃ r, v = some (.int r) ∧ ((z < x ∧ r = z) ∨ (¬ z < x ∧ r = x))) := by
  refine Con.of_go pn44 (ls := #[.val (.int x), .val (.int z)]) (fun m => by first | (simp [entryFrame, mkF, argsToLocals, Value.category]; done) | rfl) ?_
  intro κ D
  refine Go.iloadN D (pc' := 1) d44_0 rfl rfl ?_
  refine Go.iloadN D (pc' := 2) d44_1 rfl rfl ?_
  refine Go.icmp D (pc' := 9) (pc2 := 5) d44_2 (by decide) (by decide) rfl ?_ ?_
  · intro (hc2 : z < x)
    refine Go.iloadN D (pc' := 10) d44_9 rfl rfl ?_
    refine Go.iret D rfl d44_10 (by decide) (by decide) ?_
    exact ⟨rfl, rfl, _, rfl, Or.inl ⟨hc2, rfl⟩⟩
  · intro (hc2 : ¬ z < x)
    refine Go.iloadN D (pc' := 6) d44_5 rfl rfl ?_
    refine Go.goto D (pc' := 10) d44_6 (by decide) (by decide) ?_
    refine Go.iret D rfl d44_10 (by decide) (by decide) ?_
    exact ⟨rfl, rfl, _, rfl, Or.inr ⟨hc2, rfl⟩⟩
abbrev y43 : MethodName := ⟨"java/util/Arrays", "copyOf", "([BI)[B"⟩
theorem d43_0 : decode jdk_65_method_121_code 0 = .ok (.iload_n 1, 1) := by decide +kernel
theorem d43_1 : decode jdk_65_method_121_code 1 = .ok (.aload_n 0, 1) := by decide +kernel
theorem d43_2 : decode jdk_65_method_121_code 2 = .ok (.arraylength, 1) := by decide +kernel
theorem d43_3 : decode jdk_65_method_121_code 3 = .ok (.if_icmp .ne 11, 3) := by decide +kernel
theorem d43_14 : decode jdk_65_method_121_code 14 = .ok (.iload_n 1, 1) := by decide +kernel
theorem d43_15 : decode jdk_65_method_121_code 15 = .ok (.newarray .byte, 2) := by decide +kernel
theorem d43_17 : decode jdk_65_method_121_code 17 = .ok (.astore_n 2, 1) := by decide +kernel
theorem d43_18 : decode jdk_65_method_121_code 18 = .ok (.aload_n 0, 1) := by decide +kernel
theorem d43_19 : decode jdk_65_method_121_code 19 = .ok (.iconst 0, 1) := by decide +kernel
theorem d43_20 : decode jdk_65_method_121_code 20 = .ok (.aload_n 2, 1) := by decide +kernel
theorem d43_21 : decode jdk_65_method_121_code 21 = .ok (.iconst 0, 1) := by decide +kernel
theorem d43_22 : decode jdk_65_method_121_code 22 = .ok (.aload_n 0, 1) := by decide +kernel
theorem d43_23 : decode jdk_65_method_121_code 23 = .ok (.arraylength, 1) := by decide +kernel
theorem d43_24 : decode jdk_65_method_121_code 24 = .ok (.iload_n 1, 1) := by decide +kernel
theorem d43_25 : decode jdk_65_method_121_code 25 = .ok (.invokestatic 304, 3) := by decide +kernel
theorem d43_28 : decode jdk_65_method_121_code 28 = .ok (.invokestatic 150, 3) := by decide +kernel
theorem d43_31 : decode jdk_65_method_121_code 31 = .ok (.aload_n 2, 1) := by decide +kernel
theorem d43_32 : decode jdk_65_method_121_code 32 = .ok (.areturn, 1) := by decide +kernel
theorem pd43 : parseMethodDescriptor "([BI)[B" = some ⟨[(.array .byte), .int], (some (.array .byte))⟩ := by decide +kernel
theorem pn43 : plainFor y43 = true := by first | exact plainFor_of_name (by first | (simp [plainName, overriddenIn]; done) | decide +kernel) | decide +kernel | rfl
set_option maxRecDepth 65536 in
set_option maxHeartbeats 40000000 in
theorem con_cpB (l : Launch) (Z : State) (a0 : Array Value) (hw : ∀ d ∈ tables_1, d.before a0 Z = true) (h0 : Heap) (n0 : Nat) (Z0 : n0 ≤ h0.size) (σ : Sg) (a : Addr) (k : ClassId) (cap nl : Nat) (vs : List Value) (V : Arv Z h0 a k .byte (Int32.ofNat cap) vs (.int 0)) (h1 : nl < cap) (h2 : cap ≤ 8) :
    Con l Z y43 jdk_65_method_121_code 3 ((some (.array .byte))) ({ frames := 1, cells := 1, slots := 8, locals := 64 } : Room) [] #[(.ref a), (.int (Int32.ofNat nl))] σ h0 n0 (fun v h τ => σ = τ ∧ ∃ b k' vs', v = some (.ref b) ∧ h0.size ≤ b ∧ Ext h0 h ∧ Arv Z h b k' .byte (Int32.ofNat nl) vs' (.int 0)) := by
  refine Con.of_go pn43 (ls := #[.val (.ref a), .val (.int (Int32.ofNat nl)), .unset]) (fun m => by first | (simp [entryFrame, mkF, argsToLocals, Value.category]; done) | rfl) ?_
  intro κ D
  refine Go.iloadN D (pc' := 1) d43_0 rfl rfl ?_
  refine Go.aloadN D (pc' := 2) d43_1 rfl rfl rfl ?_
  refine Go.alen D (pc' := 3) d43_2 rfl V ?_
  refine Go.icmp D (pc' := 14) (pc2 := 6) d43_3 (by decide) (by decide) rfl ?_ ?_
  · intro (hc3 : ¬ (Int32.ofNat nl) = (Int32.ofNat cap))
    refine Go.iloadN D (pc' := 15) d43_14 rfl rfl ?_
    refine Go.newP D (pc' := 17) (aty := .byte) (cap := 8) (ce' := 1) (sl' := 8) (hw _ (List.mem_of_getElem? (i := 31) rfl)) d43_15 rfl (own_nn (by omega)) (by rw [own_tn (by omega)]; omega) (by decide) rfl rfl (by decide) (by decide) ?_
    intro h1 b kb gb E1 B1
    refine Go.astoreN D (pc' := 18) d43_17 rfl rfl (ls' := #[.val (.ref a), .val (.int (Int32.ofNat nl)), .val (.ref b)]) rfl ?_
    refine Go.aloadN D (pc' := 19) d43_18 rfl rfl rfl ?_
    refine Go.iconst D (pc' := 20) d43_19 rfl (v := (0 : Int32)) rfl ?_
    refine Go.aloadN D (pc' := 21) d43_20 rfl rfl rfl ?_
    refine Go.iconst D (pc' := 22) d43_21 rfl (v := (0 : Int32)) rfl ?_
    refine Go.aloadN D (pc' := 23) d43_22 rfl rfl rfl ?_
    refine Go.alen D (pc' := 24) d43_23 rfl (V.ext E1) ?_
    refine Go.iloadN D (pc' := 25) d43_24 rfl rfl ?_
    refine Go.callS D (argsL := [(.int (Int32.ofNat cap)), (.int (Int32.ofNat nl))]) (rest := [(.int (0 : Int32)), (.ref b), (.int (0 : Int32)), (.ref a)]) (pc' := 28) (ce' := 1) (sl' := 8) (con_min l Z a0 hw h1 n0 σ (Int32.ofNat cap) (Int32.ofNat nl)) (hw _ (List.mem_of_getElem? (i := 216) rfl)) (hw _ (List.mem_of_getElem? (i := 217) rfl)) (hw _ (List.mem_of_getElem? (i := 218) rfl)) (hw _ (List.mem_of_getElem? (i := 219) rfl)) (by decide) d43_25 rfl pd44 rfl rfl rfl (by decide) (W := 4) rfl (by decide) (by decide) (by decide) (by decide) (by decide) ?_
    intro v25 h25 σ25 q25
    obtain ⟨rfl, rfl, r, rfl, hr⟩ := q25
    obtain rfl : r = Int32.ofNat nl := hr.elim (fun z => z.2) (fun z => absurd ((own_lt (by omega) (by omega)).mpr (by omega)) z.1)
    show Go κ σ h1 1 8 28 #[.val (.ref a), .val (.int (Int32.ofNat nl)), .val (.ref b)] [(.int (Int32.ofNat nl)), (.int (0 : Int32)), (.ref b), (.int (0 : Int32)), (.ref a)]
    refine Go.acopy D (pc' := 31) (sN := 0) (dN := 0) (nN := nl) (hw _ (List.mem_of_getElem? (i := 220) rfl)) (hw _ (List.mem_of_getElem? (i := 223) rfl)) (hw _ (List.mem_of_getElem? (i := 221) rfl)) (hw _ (List.mem_of_getElem? (i := 222) rfl)) d43_28 rfl (V.ext E1) (B1.pad (vs' := List.replicate nl (.int 0)) (fun i => pad_rep [] (.int 0) nl i)) rfl (by decide) (by decide) (own_nn (by omega)) rfl rfl (own_tn (by omega)) (by rw [own_tn (by omega)]; omega) (by rw [own_tn (by omega)]; omega) (by simp <;> omega) (by omega) rfl (by decide) (W := 0) rfl (by decide) ?_
    intro h3 K3 B3
    refine Go.aloadN D (pc' := 32) d43_31 rfl rfl rfl ?_
    refine Go.aret D rfl rfl rfl d43_32 (by decide) (by decide) ?_
    exact ⟨rfl, b, kb, _, rfl, by omega, E1.keepN K3 (by omega), B3⟩
  · intro (hc3 : (Int32.ofNat nl) = (Int32.ofNat cap))
    exact absurd (own_inj (by omega) (by omega) hc3) (by omega)
abbrev y29 : MethodName := ⟨"java/lang/String", "encodeUTF8", "(B[BZ)[B"⟩
theorem d29_0 : decode jdk_42_method_46_code 0 = .ok (.iload_n 0, 1) := by decide +kernel
theorem d29_1 : decode jdk_42_method_46_code 1 = .ok (.iconst 1, 1) := by decide +kernel
theorem d29_2 : decode jdk_42_method_46_code 2 = .ok (.if_icmp .ne 9, 3) := by decide +kernel
theorem d29_5 : decode jdk_42_method_46_code 5 = .ok (.aload_n 1, 1) := by decide +kernel
theorem d29_6 : decode jdk_42_method_46_code 6 = .ok (.iload_n 2, 1) := by decide +kernel
theorem d29_7 : decode jdk_42_method_46_code 7 = .ok (.invokestatic 473, 3) := by decide +kernel
theorem d29_10 : decode jdk_42_method_46_code 10 = .ok (.areturn, 1) := by decide +kernel
theorem d29_11 : decode jdk_42_method_46_code 11 = .ok (.aload_n 1, 1) := by decide +kernel
theorem d29_12 : decode jdk_42_method_46_code 12 = .ok (.iconst 0, 1) := by decide +kernel
theorem d29_13 : decode jdk_42_method_46_code 13 = .ok (.aload_n 1, 1) := by decide +kernel
theorem d29_14 : decode jdk_42_method_46_code 14 = .ok (.arraylength, 1) := by decide +kernel
theorem d29_15 : decode jdk_42_method_46_code 15 = .ok (.invokestatic 128, 3) := by decide +kernel
theorem d29_18 : decode jdk_42_method_46_code 18 = .ok (.ifCond .ne 11, 3) := by decide +kernel
theorem d29_21 : decode jdk_42_method_46_code 21 = .ok (.aload_n 1, 1) := by decide +kernel
theorem d29_22 : decode jdk_42_method_46_code 22 = .ok (.invokevirtual 279, 3) := by decide +kernel
theorem d29_25 : decode jdk_42_method_46_code 25 = .ok (.checkcast 280, 3) := by decide +kernel
theorem d29_28 : decode jdk_42_method_46_code 28 = .ok (.areturn, 1) := by decide +kernel
theorem d29_29 : decode jdk_42_method_46_code 29 = .ok (.iconst 0, 1) := by decide +kernel
theorem d29_30 : decode jdk_42_method_46_code 30 = .ok (.istore_n 3, 1) := by decide +kernel
theorem d29_31 : decode jdk_42_method_46_code 31 = .ok (.aload_n 1, 1) := by decide +kernel
theorem d29_32 : decode jdk_42_method_46_code 32 = .ok (.arraylength, 1) := by decide +kernel
theorem d29_33 : decode jdk_42_method_46_code 33 = .ok (.invokestatic 60, 3) := by decide +kernel
theorem d29_36 : decode jdk_42_method_46_code 36 = .ok (.astore 4, 2) := by decide +kernel
theorem d29_38 : decode jdk_42_method_46_code 38 = .ok (.aload_n 1, 1) := by decide +kernel
theorem d29_39 : decode jdk_42_method_46_code 39 = .ok (.astore 5, 2) := by decide +kernel
theorem d29_41 : decode jdk_42_method_46_code 41 = .ok (.aload 5, 2) := by decide +kernel
theorem d29_43 : decode jdk_42_method_46_code 43 = .ok (.arraylength, 1) := by decide +kernel
theorem d29_44 : decode jdk_42_method_46_code 44 = .ok (.istore 6, 2) := by decide +kernel
theorem d29_46 : decode jdk_42_method_46_code 46 = .ok (.iconst 0, 1) := by decide +kernel
theorem d29_47 : decode jdk_42_method_46_code 47 = .ok (.istore 7, 2) := by decide +kernel
theorem d29_49 : decode jdk_42_method_46_code 49 = .ok (.iload 7, 2) := by decide +kernel
theorem d29_51 : decode jdk_42_method_46_code 51 = .ok (.iload 6, 2) := by decide +kernel
theorem d29_53 : decode jdk_42_method_46_code 53 = .ok (.if_icmp .ge 71, 3) := by decide +kernel
theorem d29_56 : decode jdk_42_method_46_code 56 = .ok (.aload 5, 2) := by decide +kernel
theorem d29_58 : decode jdk_42_method_46_code 58 = .ok (.iload 7, 2) := by decide +kernel
theorem d29_60 : decode jdk_42_method_46_code 60 = .ok (.baload, 1) := by decide +kernel
theorem d29_61 : decode jdk_42_method_46_code 61 = .ok (.istore 8, 2) := by decide +kernel
theorem d29_63 : decode jdk_42_method_46_code 63 = .ok (.iload 8, 2) := by decide +kernel
theorem d29_65 : decode jdk_42_method_46_code 65 = .ok (.ifCond .ge 44, 3) := by decide +kernel
theorem d29_68 : decode jdk_42_method_46_code 68 = .ok (.aload 4, 2) := by decide +kernel
theorem d29_70 : decode jdk_42_method_46_code 70 = .ok (.iload_n 3, 1) := by decide +kernel
theorem d29_71 : decode jdk_42_method_46_code 71 = .ok (.iinc 3 1, 3) := by decide +kernel
theorem d29_74 : decode jdk_42_method_46_code 74 = .ok (.sipush 192, 3) := by decide +kernel
theorem d29_77 : decode jdk_42_method_46_code 77 = .ok (.iload 8, 2) := by decide +kernel
theorem d29_79 : decode jdk_42_method_46_code 79 = .ok (.sipush 255, 3) := by decide +kernel
theorem d29_82 : decode jdk_42_method_46_code 82 = .ok (.iand, 1) := by decide +kernel
theorem d29_83 : decode jdk_42_method_46_code 83 = .ok (.bipush 6, 2) := by decide +kernel
theorem d29_85 : decode jdk_42_method_46_code 85 = .ok (.ishr, 1) := by decide +kernel
theorem d29_86 : decode jdk_42_method_46_code 86 = .ok (.ior, 1) := by decide +kernel
theorem d29_87 : decode jdk_42_method_46_code 87 = .ok (.i2b, 1) := by decide +kernel
theorem d29_88 : decode jdk_42_method_46_code 88 = .ok (.bastore, 1) := by decide +kernel
theorem d29_89 : decode jdk_42_method_46_code 89 = .ok (.aload 4, 2) := by decide +kernel
theorem d29_91 : decode jdk_42_method_46_code 91 = .ok (.iload_n 3, 1) := by decide +kernel
theorem d29_92 : decode jdk_42_method_46_code 92 = .ok (.iinc 3 1, 3) := by decide +kernel
theorem d29_95 : decode jdk_42_method_46_code 95 = .ok (.sipush 128, 3) := by decide +kernel
theorem d29_98 : decode jdk_42_method_46_code 98 = .ok (.iload 8, 2) := by decide +kernel
theorem d29_100 : decode jdk_42_method_46_code 100 = .ok (.bipush 63, 2) := by decide +kernel
theorem d29_102 : decode jdk_42_method_46_code 102 = .ok (.iand, 1) := by decide +kernel
theorem d29_103 : decode jdk_42_method_46_code 103 = .ok (.ior, 1) := by decide +kernel
theorem d29_104 : decode jdk_42_method_46_code 104 = .ok (.i2b, 1) := by decide +kernel
theorem d29_105 : decode jdk_42_method_46_code 105 = .ok (.bastore, 1) := by decide +kernel
theorem d29_106 : decode jdk_42_method_46_code 106 = .ok (.goto 12, 3) := by decide +kernel
theorem d29_109 : decode jdk_42_method_46_code 109 = .ok (.aload 4, 2) := by decide +kernel
theorem d29_111 : decode jdk_42_method_46_code 111 = .ok (.iload_n 3, 1) := by decide +kernel
theorem d29_112 : decode jdk_42_method_46_code 112 = .ok (.iinc 3 1, 3) := by decide +kernel
theorem d29_115 : decode jdk_42_method_46_code 115 = .ok (.iload 8, 2) := by decide +kernel
theorem d29_117 : decode jdk_42_method_46_code 117 = .ok (.bastore, 1) := by decide +kernel
theorem d29_118 : decode jdk_42_method_46_code 118 = .ok (.iinc 7 1, 3) := by decide +kernel
theorem d29_121 : decode jdk_42_method_46_code 121 = .ok (.goto (-72), 3) := by decide +kernel
theorem d29_124 : decode jdk_42_method_46_code 124 = .ok (.iload_n 3, 1) := by decide +kernel
theorem d29_125 : decode jdk_42_method_46_code 125 = .ok (.aload 4, 2) := by decide +kernel
theorem d29_127 : decode jdk_42_method_46_code 127 = .ok (.arraylength, 1) := by decide +kernel
theorem d29_128 : decode jdk_42_method_46_code 128 = .ok (.if_icmp .ne 6, 3) := by decide +kernel
theorem d29_131 : decode jdk_42_method_46_code 131 = .ok (.aload 4, 2) := by decide +kernel
theorem d29_133 : decode jdk_42_method_46_code 133 = .ok (.areturn, 1) := by decide +kernel
theorem d29_134 : decode jdk_42_method_46_code 134 = .ok (.aload 4, 2) := by decide +kernel
theorem d29_136 : decode jdk_42_method_46_code 136 = .ok (.iload_n 3, 1) := by decide +kernel
theorem d29_137 : decode jdk_42_method_46_code 137 = .ok (.invokestatic 102, 3) := by decide +kernel
theorem d29_140 : decode jdk_42_method_46_code 140 = .ok (.areturn, 1) := by decide +kernel
theorem pd29 : parseMethodDescriptor "(B[BZ)[B" = some ⟨[.byte, (.array .byte), .boolean], (some (.array .byte))⟩ := by decide +kernel
theorem pn29 : plainFor y29 = true := by first | exact plainFor_of_name (by first | (simp [plainName, overriddenIn]; done) | decide +kernel) | decide +kernel | rfl
set_option maxRecDepth 65536 in
set_option maxHeartbeats 40000000 in
theorem con_eu8 (l : Launch) (Z : State) (a0 : Array Value) (hw : ∀ d ∈ tables_1, d.before a0 Z = true) (h0 : Heap) (n0 : Nat) (Z0 : n0 ≤ h0.size) (σ : Sg) (b : Addr) (kb : ClassId) (cs : List Int32) (B : Arv Z h0 b kb .byte (Int32.ofNat cs.length) (bv cs) (.int 0)) (hp : Lat cs) (X : Exa Z h0 b "[B") (h4 : cs.length ≤ 4) :
    Con l Z y29 jdk_42_method_46_code 9 ((some (.array .byte))) ({ frames := 2, cells := 2, slots := 16, locals := 80 } : Room) [] #[(.int (0 : Int32)), (.ref b), (.int (1 : Int32))] σ h0 n0 (fun v h τ => σ = τ ∧ ∃ d kd n vs, v = some (.ref d) ∧ h0.size ≤ d ∧ Ext h0 h ∧ Arv Z h d kd .byte (Int32.ofNat n) vs (.int 0) ∧ cs.length ≤ n ∧ n ≤ 2 * cs.length) := by
  refine Con.of_go pn29 (ls := #[.val (.int (0 : Int32)), .val (.ref b), .val (.int (1 : Int32)), .unset, .unset, .unset, .unset, .unset, .unset]) (fun m => by first | (simp [entryFrame, mkF, argsToLocals, Value.category]; done) | rfl) ?_
  intro κ D
  have hl := hp.2
  refine Go.iloadN D (pc' := 1) d29_0 rfl rfl ?_
  refine Go.iconst D (pc' := 2) d29_1 rfl (v := (1 : Int32)) rfl ?_
  refine Go.icmp D (pc' := 11) (pc2 := 5) d29_2 (by decide) (by decide) rfl (fun _ => ?_) (fun (hc : (0 : Int32) = (1 : Int32)) => absurd hc (by decide))
  refine Go.aloadN D (pc' := 12) d29_11 rfl rfl rfl ?_
  refine Go.iconst D (pc' := 13) d29_12 rfl (v := (0 : Int32)) rfl ?_
  refine Go.aloadN D (pc' := 14) d29_13 rfl rfl rfl ?_
  refine Go.alen D (pc' := 15) d29_14 rfl B ?_
  refine Go.callS D (argsL := [(.ref b), (.int (0 : Int32)), (.int (Int32.ofNat cs.length))]) (rest := []) (pc' := 18) (ce' := 0) (sl' := 0) (con_hneg l Z a0 hw h0 n0 σ b kb cs B hp) (hw _ (List.mem_of_getElem? (i := 138) rfl)) (hw _ (List.mem_of_getElem? (i := 139) rfl)) (hw _ (List.mem_of_getElem? (i := 140) rfl)) (hw _ (List.mem_of_getElem? (i := 141) rfl)) (by decide) d29_15 rfl pd30 rfl rfl rfl (by decide) (W := 0) rfl (by decide) (by decide) (by decide) (by decide) (by decide) ?_
  intro v15 h15 σ15 q15
  obtain ⟨rfl, rfl, r, rfl⟩ := q15
  show Go κ σ h0 0 0 18 #[.val (.int (0 : Int32)), .val (.ref b), .val (.int (1 : Int32)), .unset, .unset, .unset, .unset, .unset, .unset] [(.int r)]
  refine Go.ifc D (pc' := 29) (pc2 := 21) d29_18 (by decide) (by decide) rfl ?_ ?_
  · intro (hc18 : ¬ r = 0)
    refine Go.iconst D (pc' := 30) d29_29 rfl (v := (0 : Int32)) rfl ?_
    refine Go.istoreN D (pc' := 31) d29_30 rfl (ls' := #[.val (.int (0 : Int32)), .val (.ref b), .val (.int (1 : Int32)), .val (.int (0 : Int32)), .unset, .unset, .unset, .unset, .unset]) rfl ?_
    refine Go.aloadN D (pc' := 32) d29_31 rfl rfl rfl ?_
    refine Go.alen D (pc' := 33) d29_32 rfl B ?_
    refine Go.callS D (argsL := [(.int (Int32.ofNat cs.length))]) (rest := []) (pc' := 36) (ce' := 1) (sl' := 8) (con_nbf l Z a0 hw h0 n0 σ cs.length h4) (hw _ (List.mem_of_getElem? (i := 205) rfl)) (hw _ (List.mem_of_getElem? (i := 206) rfl)) (hw _ (List.mem_of_getElem? (i := 29) rfl)) (hw _ (List.mem_of_getElem? (i := 207) rfl)) (by decide) d29_33 rfl pd41 rfl rfl rfl (by decide) (W := 0) rfl (by decide) (by decide) (by decide) (by decide) (by decide) ?_
    intro v33 h1 σ33 q33
    obtain ⟨rfl, d, kd, rfl, gd, E1, D1⟩ := q33
    have gd' : n0 ≤ d := Nat.le_trans Z0 gd
    have nbd : b ≠ d := own_ne (by have := own_ltn B.lt; omega)
    show Go κ σ h1 1 8 36 #[.val (.int (0 : Int32)), .val (.ref b), .val (.int (1 : Int32)), .val (.int (0 : Int32)), .unset, .unset, .unset, .unset, .unset] [(.ref d)]
    refine Go.astore D (pc' := 38) d29_36 rfl rfl (ls' := #[.val (.int (0 : Int32)), .val (.ref b), .val (.int (1 : Int32)), .val (.int (0 : Int32)), .val (.ref d), .unset, .unset, .unset, .unset]) rfl ?_
    refine Go.aloadN D (pc' := 39) d29_38 rfl rfl rfl ?_
    refine Go.astore D (pc' := 41) d29_39 rfl rfl (ls' := #[.val (.int (0 : Int32)), .val (.ref b), .val (.int (1 : Int32)), .val (.int (0 : Int32)), .val (.ref d), .val (.ref b), .unset, .unset, .unset]) rfl ?_
    refine Go.aload D (pc' := 43) d29_41 rfl rfl rfl ?_
    refine Go.alen D (pc' := 44) d29_43 rfl (B.ext E1) ?_
    refine Go.istore D (pc' := 46) d29_44 rfl (ls' := #[.val (.int (0 : Int32)), .val (.ref b), .val (.int (1 : Int32)), .val (.int (0 : Int32)), .val (.ref d), .val (.ref b), .val (.int (Int32.ofNat cs.length)), .unset, .unset]) rfl ?_
    have loop : ∀ (N i p : Nat) (h : Heap) (vs : List Value) (s8 : Slot), cs.length - i = N → i ≤ cs.length → i ≤ p → p ≤ 2 * i → vs.length = 2 * cs.length → Keep h1 h [d] → Arv Z h d kd .byte (Int32.ofNat (2 * cs.length)) vs (.int 0) → (s8 = .unset ∨ ∃ w, s8 = .val w ∧ w.category = 1) → Go κ σ h 1 8 49 #[.val (.int (0 : Int32)), .val (.ref b), .val (.int (1 : Int32)), .val (.int (Int32.ofNat p)), .val (.ref d), .val (.ref b), .val (.int (Int32.ofNat cs.length)), .val (.int (Int32.ofNat i)), s8] [] := by
      intro N
      induction N using Nat.strongRecOn with
      | _ N ih =>
        intro i p h vs s8 hN hi0 q1 q2 hvl K V hs8
        refine Go.iload D (pc' := 51) d29_49 rfl rfl ?_
        refine Go.iload D (pc' := 53) d29_51 rfl rfl ?_
        refine Go.icmp D (pc' := 124) (pc2 := 56) d29_53 (by decide) (by decide) rfl ?_ ?_
        · intro (hc53 : ¬ (Int32.ofNat i) < (Int32.ofNat cs.length))
          have hi : i = cs.length := by
            have : ¬ i < cs.length := fun q => hc53 ((own_lt (by omega) (by omega)).mpr q)
            omega
          have zz : n0 ≤ h.size := Nat.le_trans (Nat.le_trans Z0 E1.1) K.1
          have EE := E1.keepN K (by omega)
          refine Go.iloadN D (pc' := 125) d29_124 rfl rfl ?_
          refine Go.aload D (pc' := 127) d29_125 rfl rfl rfl ?_
          refine Go.alen D (pc' := 128) d29_127 rfl V ?_
          refine Go.icmp D (pc' := 134) (pc2 := 131) d29_128 (by decide) (by decide) rfl ?_ ?_
          · intro (hc128 : ¬ (Int32.ofNat p) = (Int32.ofNat (2 * cs.length)))
            refine Go.aload D (pc' := 136) d29_134 rfl rfl rfl ?_
            refine Go.iloadN D (pc' := 137) d29_136 rfl rfl ?_
            have hpl : p < 2 * cs.length := by
              rcases Nat.lt_or_eq_of_le (show p ≤ 2 * cs.length by omega) with q | q
              · exact q
              · exact absurd (by rw [q]) hc128
            refine Go.callS D (argsL := [(.ref d), (.int (Int32.ofNat p))]) (rest := []) (pc' := 140) (ce' := 2) (sl' := 16) (con_cpB l Z a0 hw h n0 zz σ d kd (2 * cs.length) p vs V hpl (by omega)) (hw _ (List.mem_of_getElem? (i := 212) rfl)) (hw _ (List.mem_of_getElem? (i := 213) rfl)) (hw _ (List.mem_of_getElem? (i := 214) rfl)) (hw _ (List.mem_of_getElem? (i := 215) rfl)) (by decide) d29_137 rfl pd43 rfl rfl rfl (by decide) (W := 0) rfl (by decide) (by decide) (by decide) (by decide) (by decide) ?_
            intro v137 h137 σ137 q137
            obtain ⟨rfl, d2, k2, vs2, rfl, g2, E2, V2⟩ := q137
            show Go κ σ h137 2 16 140 #[.val (.int (0 : Int32)), .val (.ref b), .val (.int (1 : Int32)), .val (.int (Int32.ofNat p)), .val (.ref d), .val (.ref b), .val (.int (Int32.ofNat cs.length)), .val (.int (Int32.ofNat i)), s8] [(.ref d2)]
            refine Go.aret D rfl rfl rfl d29_140 (by decide) (by decide) ?_
            exact ⟨rfl, d2, k2, p, vs2, rfl, Nat.le_trans EE.1 g2, EE.tr E2, V2, by omega, by omega⟩
          · intro (hc128 : (Int32.ofNat p) = (Int32.ofNat (2 * cs.length)))
            refine Go.aload D (pc' := 133) d29_131 rfl rfl rfl ?_
            refine Go.aret D rfl rfl rfl d29_133 (by decide) (by decide) ?_
            exact ⟨rfl, d, kd, 2 * cs.length, vs, rfl, gd, EE, V, by omega, by omega⟩
        · intro (hc53 : (Int32.ofNat i) < (Int32.ofNat cs.length))
          have hi : i < cs.length := (own_lt (by omega) (by omega)).mp hc53
          refine Go.aload D (pc' := 58) d29_56 rfl rfl rfl ?_
          refine Go.iload D (pc' := 60) d29_58 rfl rfl ?_
          refine Go.baload D (pc' := 61) d29_60 rfl ((B.ext E1).keep K (nin1 nbd)) (own_nn (by omega)) ((own_lt (by omega) (by omega)).mpr hi) (v := .int cs[i].toInt8.toInt32) (by rw [own_tn (by omega)]; exact bv_at hi _) ?_
          refine Go.istoreU D (pc' := 63) d29_61 rfl rfl hs8 (ls' := #[.val (.int (0 : Int32)), .val (.ref b), .val (.int (1 : Int32)), .val (.int (Int32.ofNat p)), .val (.ref d), .val (.ref b), .val (.int (Int32.ofNat cs.length)), .val (.int (Int32.ofNat i)), .val (.int cs[i].toInt8.toInt32)]) rfl ?_
          refine Go.iload D (pc' := 65) d29_63 rfl rfl ?_
          refine Go.ifc D (pc' := 109) (pc2 := 68) d29_65 (by decide) (by decide) rfl ?_ ?_
          · intro (hc65 : ¬ cs[i].toInt8.toInt32 < 0)
            refine Go.aload D (pc' := 111) d29_109 rfl rfl rfl ?_
            refine Go.iloadN D (pc' := 112) d29_111 rfl rfl ?_
            refine Go.iinc D (pc' := 115) d29_112 rfl rfl (d := (1 : Int32)) rfl (ls' := #[.val (.int (0 : Int32)), .val (.ref b), .val (.int (1 : Int32)), .val (.int ((Int32.ofNat p) + (1 : Int32))), .val (.ref d), .val (.ref b), .val (.int (Int32.ofNat cs.length)), .val (.int (Int32.ofNat i)), .val (.int cs[i].toInt8.toInt32)]) rfl ?_
            rw [own_succ]
            refine Go.iload D (pc' := 117) d29_115 rfl rfl ?_
            refine Go.bastore D (pc' := 118) (i := p) d29_117 rfl V (own_nn (by omega)) ((own_lt (by omega) (by omega)).mpr (by omega)) (own_tn (by omega)) (by omega) gd' rfl ?_
            intro h117 K117 V117
            refine Go.iinc D (pc' := 121) d29_118 rfl rfl (d := (1 : Int32)) rfl (ls' := #[.val (.int (0 : Int32)), .val (.ref b), .val (.int (1 : Int32)), .val (.int (Int32.ofNat (p + 1))), .val (.ref d), .val (.ref b), .val (.int (Int32.ofNat cs.length)), .val (.int ((Int32.ofNat i) + (1 : Int32))), .val (.int cs[i].toInt8.toInt32)]) rfl ?_
            refine Go.goto D (pc' := 49) d29_121 (by decide) (by decide) ?_
            rw [own_succ]
            exact ih (cs.length - (i + 1)) (by omega) (i + 1) (p + 1) h117 _ _ rfl (by omega) (by omega) (by omega) (by rw [List.length_set]; exact hvl) (K.trans K117 (fun x hx => Or.inl hx)) V117 (Or.inr ⟨_, rfl, rfl⟩)
          · intro (hc65 : cs[i].toInt8.toInt32 < 0)
            refine Go.aload D (pc' := 70) d29_68 rfl rfl rfl ?_
            refine Go.iloadN D (pc' := 71) d29_70 rfl rfl ?_
            refine Go.iinc D (pc' := 74) d29_71 rfl rfl (d := (1 : Int32)) rfl (ls' := #[.val (.int (0 : Int32)), .val (.ref b), .val (.int (1 : Int32)), .val (.int ((Int32.ofNat p) + (1 : Int32))), .val (.ref d), .val (.ref b), .val (.int (Int32.ofNat cs.length)), .val (.int (Int32.ofNat i)), .val (.int cs[i].toInt8.toInt32)]) rfl ?_
            rw [own_succ]
            refine Go.sipush D (pc' := 77) d29_74 rfl (v := (192 : Int32)) rfl ?_
            refine Go.iload D (pc' := 79) d29_77 rfl rfl ?_
            refine Go.sipush D (pc' := 82) d29_79 rfl (v := (255 : Int32)) rfl ?_
            refine Go.iand D (pc' := 83) d29_82 rfl  ?_
            refine Go.bipush D (pc' := 85) d29_83 rfl (v := (6 : Int32)) rfl ?_
            refine Go.ishr D (pc' := 86) d29_85 rfl  ?_
            refine Go.ior D (pc' := 87) d29_86 rfl  ?_
            refine Go.i2b D (pc' := 88) d29_87 rfl  ?_
            refine Go.bastore D (pc' := 89) (i := p) d29_88 rfl V (own_nn (by omega)) ((own_lt (by omega) (by omega)).mpr (by omega)) (own_tn (by omega)) (by omega) gd' rfl ?_
            intro h88 K88 V88
            refine Go.aload D (pc' := 91) d29_89 rfl rfl rfl ?_
            refine Go.iloadN D (pc' := 92) d29_91 rfl rfl ?_
            refine Go.iinc D (pc' := 95) d29_92 rfl rfl (d := (1 : Int32)) rfl (ls' := #[.val (.int (0 : Int32)), .val (.ref b), .val (.int (1 : Int32)), .val (.int ((Int32.ofNat (p + 1)) + (1 : Int32))), .val (.ref d), .val (.ref b), .val (.int (Int32.ofNat cs.length)), .val (.int (Int32.ofNat i)), .val (.int cs[i].toInt8.toInt32)]) rfl ?_
            rw [own_succ]
            refine Go.sipush D (pc' := 98) d29_95 rfl (v := (128 : Int32)) rfl ?_
            refine Go.iload D (pc' := 100) d29_98 rfl rfl ?_
            refine Go.bipush D (pc' := 102) d29_100 rfl (v := (63 : Int32)) rfl ?_
            refine Go.iand D (pc' := 103) d29_102 rfl  ?_
            refine Go.ior D (pc' := 104) d29_103 rfl  ?_
            refine Go.i2b D (pc' := 105) d29_104 rfl  ?_
            refine Go.bastore D (pc' := 106) (i := (p + 1)) d29_105 rfl V88 (own_nn (by omega)) ((own_lt (by omega) (by omega)).mpr (by omega)) (own_tn (by omega)) (by rw [List.length_set]; omega) gd' rfl ?_
            intro h105 K105 V105
            refine Go.goto D (pc' := 118) d29_106 (by decide) (by decide) ?_
            refine Go.iinc D (pc' := 121) d29_118 rfl rfl (d := (1 : Int32)) rfl (ls' := #[.val (.int (0 : Int32)), .val (.ref b), .val (.int (1 : Int32)), .val (.int (Int32.ofNat (p + 1 + 1))), .val (.ref d), .val (.ref b), .val (.int (Int32.ofNat cs.length)), .val (.int ((Int32.ofNat i) + (1 : Int32))), .val (.int cs[i].toInt8.toInt32)]) rfl ?_
            refine Go.goto D (pc' := 49) d29_121 (by decide) (by decide) ?_
            rw [own_succ]
            exact ih (cs.length - (i + 1)) (by omega) (i + 1) (p + 1 + 1) h105 _ _ rfl (by omega) (by omega) (by omega) (by rw [List.length_set, List.length_set]; exact hvl) ((K.trans K88 (fun x hx => Or.inl hx)).trans K105 (fun x hx => Or.inl hx)) V105 (Or.inr ⟨_, rfl, rfl⟩)
    refine Go.iconst D (pc' := 47) d29_46 rfl (v := (0 : Int32)) rfl ?_
    refine Go.istore D (pc' := 49) d29_47 rfl (ls' := #[.val (.int (0 : Int32)), .val (.ref b), .val (.int (1 : Int32)), .val (.int (0 : Int32)), .val (.ref d), .val (.ref b), .val (.int (Int32.ofNat cs.length)), .val (.int (0 : Int32)), .unset]) rfl ?_
    exact loop (cs.length - 0) 0 0 h1 _ _ rfl (by omega) (by omega) (by omega) (by simp) (Keep.refl _ _) D1 (Or.inl rfl)
  · intro (hc18 : r = 0)
    refine Go.aloadN D (pc' := 22) d29_21 rfl rfl rfl ?_
    refine Go.cloneV D (pc' := 25) (ad := "[B") (cap := 8) (ce' := 1) (sl' := 8) (hw _ (List.mem_of_getElem? (i := 145) rfl)) (hw _ (List.mem_of_getElem? (i := 146) rfl)) (hw _ (List.mem_of_getElem? (i := 150) rfl)) (hw _ (List.mem_of_getElem? (i := 148) rfl)) (hw _ (List.mem_of_getElem? (i := 149) rfl)) (hw _ (List.mem_of_getElem? (i := 151) rfl)) d29_22 rfl rfl B X (by decide) (W := 0) rfl (by decide) (by rw [own_tn (by omega)]; omega) rfl rfl (by decide) (by decide) ?_
    intro h1 d gd E1 D1 X1
    refine Go.castY D (pc' := 28) (hw _ (List.mem_of_getElem? (i := 152) rfl)) d29_25 rfl (Ins.self X1) ?_
    refine Go.aret D rfl rfl rfl d29_28 (by decide) (by decide) ?_
    exact ⟨rfl, d, kb, cs.length, _, rfl, by omega, E1, D1, by omega, by omega⟩
abbrev y28 : MethodName := ⟨"java/lang/String", "encode", "(Ljava/nio/charset/Charset;B[B)[B"⟩
theorem d28_0 : decode jdk_42_method_18_code 0 = .ok (.aload_n 0, 1) := by decide +kernel
theorem d28_1 : decode jdk_42_method_18_code 1 = .ok (.getstatic 86, 3) := by decide +kernel
theorem d28_4 : decode jdk_42_method_18_code 4 = .ok (.if_acmp .ne 10, 3) := by decide +kernel
theorem d28_7 : decode jdk_42_method_18_code 7 = .ok (.iload_n 1, 1) := by decide +kernel
theorem d28_8 : decode jdk_42_method_18_code 8 = .ok (.aload_n 2, 1) := by decide +kernel
theorem d28_9 : decode jdk_42_method_18_code 9 = .ok (.iconst 1, 1) := by decide +kernel
theorem d28_10 : decode jdk_42_method_18_code 10 = .ok (.invokestatic 252, 3) := by decide +kernel
theorem d28_13 : decode jdk_42_method_18_code 13 = .ok (.areturn, 1) := by decide +kernel
theorem d28_14 : decode jdk_42_method_18_code 14 = .ok (.aload_n 0, 1) := by decide +kernel
theorem d28_15 : decode jdk_42_method_18_code 15 = .ok (.getstatic 116, 3) := by decide +kernel
theorem d28_18 : decode jdk_42_method_18_code 18 = .ok (.if_acmp .ne 9, 3) := by decide +kernel
theorem d28_21 : decode jdk_42_method_18_code 21 = .ok (.iload_n 1, 1) := by decide +kernel
theorem d28_22 : decode jdk_42_method_18_code 22 = .ok (.aload_n 2, 1) := by decide +kernel
theorem d28_23 : decode jdk_42_method_18_code 23 = .ok (.invokestatic 256, 3) := by decide +kernel
theorem d28_26 : decode jdk_42_method_18_code 26 = .ok (.areturn, 1) := by decide +kernel
theorem d28_27 : decode jdk_42_method_18_code 27 = .ok (.aload_n 0, 1) := by decide +kernel
theorem d28_28 : decode jdk_42_method_18_code 28 = .ok (.getstatic 123, 3) := by decide +kernel
theorem d28_31 : decode jdk_42_method_18_code 31 = .ok (.if_acmp .ne 9, 3) := by decide +kernel
theorem d28_34 : decode jdk_42_method_18_code 34 = .ok (.iload_n 1, 1) := by decide +kernel
theorem d28_35 : decode jdk_42_method_18_code 35 = .ok (.aload_n 2, 1) := by decide +kernel
theorem d28_36 : decode jdk_42_method_18_code 36 = .ok (.invokestatic 260, 3) := by decide +kernel
theorem d28_39 : decode jdk_42_method_18_code 39 = .ok (.areturn, 1) := by decide +kernel
theorem d28_40 : decode jdk_42_method_18_code 40 = .ok (.aload_n 0, 1) := by decide +kernel
theorem d28_41 : decode jdk_42_method_18_code 41 = .ok (.iload_n 1, 1) := by decide +kernel
theorem d28_42 : decode jdk_42_method_18_code 42 = .ok (.aload_n 2, 1) := by decide +kernel
theorem d28_43 : decode jdk_42_method_18_code 43 = .ok (.iconst 1, 1) := by decide +kernel
theorem d28_44 : decode jdk_42_method_18_code 44 = .ok (.invokestatic 263, 3) := by decide +kernel
theorem d28_47 : decode jdk_42_method_18_code 47 = .ok (.areturn, 1) := by decide +kernel
theorem pd28 : parseMethodDescriptor "(Ljava/nio/charset/Charset;B[B)[B" = some ⟨[(.object "java/nio/charset/Charset"), .byte, (.array .byte)], (some (.array .byte))⟩ := by decide +kernel
theorem pn28 : plainFor y28 = true := by first | exact plainFor_of_name (by first | (simp [plainName, overriddenIn]; done) | decide +kernel) | decide +kernel | rfl
set_option maxRecDepth 65536 in
set_option maxHeartbeats 40000000 in
theorem con_enc (l : Launch) (Z : State) (a0 : Array Value) (hw : ∀ d ∈ tables_1, d.before a0 Z = true) (h0 : Heap) (n0 : Nat) (Z0 : n0 ≤ h0.size) (σ : Sg) (b : Addr) (kb : ClassId) (cs : List Int32) (B : Arv Z h0 b kb .byte (Int32.ofNat cs.length) (bv cs) (.int 0)) (hp : Lat cs) (X : Exa Z h0 b "[B") (h4 : cs.length ≤ 4) (u8 : Addr) (U1 : Sta Z Z.heap "java/nio/charset/StandardCharsets" "UTF_8" "Ljava/nio/charset/Charset;" (.ref u8)) (U2 : Sta Z Z.heap "sun/nio/cs/UTF_8" "INSTANCE" "Lsun/nio/cs/UTF_8;" (.ref u8)) :
    Con l Z y28 jdk_42_method_18_code 3 ((some (.array .byte))) ({ frames := 3, cells := 2, slots := 16, locals := 100 } : Room) [] #[(.ref u8), (.int (0 : Int32)), (.ref b)] σ h0 n0 (fun v h τ => σ = τ ∧ ∃ d kd n vs, v = some (.ref d) ∧ h0.size ≤ d ∧ Ext h0 h ∧ Arv Z h d kd .byte (Int32.ofNat n) vs (.int 0) ∧ cs.length ≤ n ∧ n ≤ 2 * cs.length) := by
  refine Con.of_go pn28 (ls := #[.val (.ref u8), .val (.int (0 : Int32)), .val (.ref b)]) (fun m => by first | (simp [entryFrame, mkF, argsToLocals, Value.category]; done) | rfl) ?_
  intro κ D
  refine Go.aloadN D (pc' := 1) d28_0 rfl rfl rfl ?_
  refine Go.getS D (pc' := 4) (hw _ (List.mem_of_getElem? (i := 133) rfl)) d28_1 rfl U2 ?_
  refine Go.acmpNe D (pc' := 14) (pc2 := 7) rfl rfl d28_4 (by decide) (by decide) rfl ?_ ?_
  · intro (hc4 : ¬ (.ref u8 : Value) = .ref u8)
    exact absurd rfl hc4
  · intro (hc4 : (.ref u8 : Value) = .ref u8)
    refine Go.iloadN D (pc' := 8) d28_7 rfl rfl ?_
    refine Go.aloadN D (pc' := 9) d28_8 rfl rfl rfl ?_
    refine Go.iconst D (pc' := 10) d28_9 rfl (v := (1 : Int32)) rfl ?_
    refine Go.callS D (argsL := [(.int (0 : Int32)), (.ref b), (.int (1 : Int32))]) (rest := []) (pc' := 13) (ce' := 2) (sl' := 16) (con_eu8 l Z a0 hw h0 n0 Z0 σ b kb cs B hp X h4) (hw _ (List.mem_of_getElem? (i := 135) rfl)) (hw _ (List.mem_of_getElem? (i := 136) rfl)) (hw _ (List.mem_of_getElem? (i := 15) rfl)) (hw _ (List.mem_of_getElem? (i := 137) rfl)) (by decide) d28_10 rfl pd29 rfl rfl rfl (by decide) (W := 0) rfl (by decide) (by decide) (by decide) (by decide) (by decide) ?_
    intro v10 h2 σ10 q10
    obtain ⟨rfl, d, kd, n, vs, rfl, gd, E2, D2, b1, b2⟩ := q10
    show Go κ σ h2 2 16 13 #[.val (.ref u8), .val (.int (0 : Int32)), .val (.ref b)] [(.ref d)]
    refine Go.aret D rfl rfl rfl d28_13 (by decide) (by decide) ?_
    exact ⟨rfl, d, kd, n, vs, rfl, gd, E2, D2, b1, b2⟩
abbrev y27 : MethodName := ⟨"java/lang/String", "getBytes", "(Ljava/nio/charset/Charset;)[B"⟩
theorem d27_0 : decode jdk_42_method_64_code 0 = .ok (.aload_n 1, 1) := by decide +kernel
theorem d27_1 : decode jdk_42_method_64_code 1 = .ok (.ifnonnull 11, 3) := by decide +kernel
theorem d27_4 : decode jdk_42_method_64_code 4 = .ok (.new 538, 3) := by decide +kernel
theorem d27_7 : decode jdk_42_method_64_code 7 = .ok (.dup, 1) := by decide +kernel
theorem d27_8 : decode jdk_42_method_64_code 8 = .ok (.invokespecial 540, 3) := by decide +kernel
theorem d27_11 : decode jdk_42_method_64_code 11 = .ok (.athrow, 1) := by decide +kernel
theorem d27_12 : decode jdk_42_method_64_code 12 = .ok (.aload_n 1, 1) := by decide +kernel
theorem d27_13 : decode jdk_42_method_64_code 13 = .ok (.aload_n 0, 1) := by decide +kernel
theorem d27_14 : decode jdk_42_method_64_code 14 = .ok (.invokevirtual 335, 3) := by decide +kernel
theorem d27_17 : decode jdk_42_method_64_code 17 = .ok (.aload_n 0, 1) := by decide +kernel
theorem d27_18 : decode jdk_42_method_64_code 18 = .ok (.getfield 9, 3) := by decide +kernel
theorem d27_21 : decode jdk_42_method_64_code 21 = .ok (.invokestatic 535, 3) := by decide +kernel
theorem d27_24 : decode jdk_42_method_64_code 24 = .ok (.areturn, 1) := by decide +kernel
theorem pd27 : parseMethodDescriptor "(Ljava/nio/charset/Charset;)[B" = some ⟨[(.object "java/nio/charset/Charset")], (some (.array .byte))⟩ := by decide +kernel
theorem pn27 : plainFor y27 = true := by first | exact plainFor_of_name (by first | (simp [plainName, overriddenIn]; done) | decide +kernel) | decide +kernel | rfl
set_option maxRecDepth 65536 in
set_option maxHeartbeats 40000000 in
theorem con_gb (l : Launch) (Z : State) (a0 : Array Value) (hw : ∀ d ∈ tables_1, d.before a0 Z = true) (h0 : Heap) (n0 : Nat) (Z0 : n0 ≤ h0.size) (σ : Sg) (s : Addr) (cs : List Int32) (S : Str Z h0 s cs) (Hx : ∃ b, Fld Z h0 s "java/lang/String" "value" "[B" (.ref b) ∧ Exa Z h0 b "[B") (h4 : cs.length ≤ 4) (cz : Int32) (hcz : ¬ cz = 0) (O2 : Sta Z Z.heap "java/lang/String" "COMPACT_STRINGS" "Z" (.int cz)) (u8 : Addr) (U1 : Sta Z Z.heap "java/nio/charset/StandardCharsets" "UTF_8" "Ljava/nio/charset/Charset;" (.ref u8)) (U2 : Sta Z Z.heap "sun/nio/cs/UTF_8" "INSTANCE" "Lsun/nio/cs/UTF_8;" (.ref u8)) :
    Con l Z y27 jdk_42_method_64_code 2 ((some (.array .byte))) ({ frames := 4, cells := 2, slots := 16, locals := 114 } : Room) [] #[(.ref s), (.ref u8)] σ h0 n0 (fun v h τ => σ = τ ∧ ∃ d kd n vs, v = some (.ref d) ∧ h0.size ≤ d ∧ Ext h0 h ∧ Arv Z h d kd .byte (Int32.ofNat n) vs (.int 0) ∧ cs.length ≤ n ∧ n ≤ 2 * cs.length) := by
  refine Con.of_go pn27 (ls := #[.val (.ref s), .val (.ref u8)]) (fun m => by first | (simp [entryFrame, mkF, argsToLocals, Value.category]; done) | rfl) ?_
  intro κ D
  obtain ⟨e1, e2, b, kb, e3, e4⟩ := id S.1
  have hX : Exa Z h0 b "[B" := by
    obtain ⟨b', q1, q2⟩ := Hx
    have e : b = b' := Classical.byContradiction fun u => Fld.ne e3 q1 (fun z => u (by injection z)) rfl
    rw [e]; exact q2
  refine Go.aloadN D (pc' := 1) d27_0 rfl rfl rfl ?_
  refine Go.ifnonnullY D (pc' := 12) d27_1 (by decide) (by decide) ?_
  refine Go.aloadN D (pc' := 13) d27_12 rfl rfl rfl ?_
  refine Go.aloadN D (pc' := 14) d27_13 rfl rfl rfl ?_
  refine Go.callV D (argsL := []) (rest := [(.ref u8)]) (pc' := 17) (ce' := 0) (sl' := 0) (con_scoder l Z a0 hw h0 n0 σ s e2 cz hcz O2) (hw _ (List.mem_of_getElem? (i := 71) rfl)) (hw _ (List.mem_of_getElem? (i := 72) rfl)) (hw _ (List.mem_of_getElem? (i := 74) rfl)) (hw _ (List.mem_of_getElem? (i := 73) rfl)) (hw _ (List.mem_of_getElem? (i := 15) rfl)) (hw _ (List.mem_of_getElem? (i := 75) rfl)) (nfS (hw _ (List.mem_of_getElem? (i := 74) rfl))) (by decide) e1 d27_14 rfl pd15 rfl rfl rfl (by decide) (W := 1) rfl (by decide) (by decide) (by decide) (by decide) (by decide) ?_
  intro v14 h14 σ14 q14
  obtain ⟨rfl, rfl, rfl⟩ := q14
  show Go κ σ h0 0 0 17 #[.val (.ref s), .val (.ref u8)] [(.int (0 : Int32)), (.ref u8)]
  refine Go.aloadN D (pc' := 18) d27_17 rfl rfl rfl ?_
  refine Go.getF D (pc' := 21) (hw _ (List.mem_of_getElem? (i := 40) rfl)) d27_18 rfl e3 ?_
  refine Go.callS D (argsL := [(.ref u8), (.int (0 : Int32)), (.ref b)]) (rest := []) (pc' := 24) (ce' := 2) (sl' := 16) (con_enc l Z a0 hw h0 n0 Z0 σ b kb cs e4 S.2 hX h4 u8 U1 U2) (hw _ (List.mem_of_getElem? (i := 130) rfl)) (hw _ (List.mem_of_getElem? (i := 131) rfl)) (hw _ (List.mem_of_getElem? (i := 15) rfl)) (hw _ (List.mem_of_getElem? (i := 132) rfl)) (by decide) d27_21 rfl pd28 rfl rfl rfl (by decide) (W := 0) rfl (by decide) (by decide) (by decide) (by decide) (by decide) ?_
  intro v21 h2 σ21 q21
  obtain ⟨rfl, d, kd, n, vs, rfl, gd, E2, D2, b1, b2⟩ := q21
  show Go κ σ h2 2 16 24 #[.val (.ref s), .val (.ref u8)] [(.ref d)]
  refine Go.aret D rfl rfl rfl d27_24 (by decide) (by decide) ?_
  exact ⟨rfl, d, kd, n, vs, rfl, gd, E2, D2, b1, b2⟩
abbrev y23 : MethodName := ⟨"com/example/ticks_into_totals/ticksintototals/CounterName", "checkId", "(Ljava/lang/String;)Ljava/lang/String;"⟩
theorem d23_0 : decode prog_3_method_7_code 0 = .ok (.aload_n 0, 1) := by decide +kernel
theorem d23_1 : decode prog_3_method_7_code 1 = .ok (.ldc 83, 2) := by decide +kernel
theorem d23_3 : decode prog_3_method_7_code 3 = .ok (.invokestatic 39, 3) := by decide +kernel
theorem d23_6 : decode prog_3_method_7_code 6 = .ok (.pop, 1) := by decide +kernel
theorem d23_7 : decode prog_3_method_7_code 7 = .ok (.aload_n 0, 1) := by decide +kernel
theorem d23_8 : decode prog_3_method_7_code 8 = .ok (.invokestatic 84, 3) := by decide +kernel
theorem d23_11 : decode prog_3_method_7_code 11 = .ok (.ifCond .ne 13, 3) := by decide +kernel
theorem d23_14 : decode prog_3_method_7_code 14 = .ok (.new 56, 3) := by decide +kernel
theorem d23_17 : decode prog_3_method_7_code 17 = .ok (.dup, 1) := by decide +kernel
theorem d23_18 : decode prog_3_method_7_code 18 = .ok (.ldc 87, 2) := by decide +kernel
theorem d23_20 : decode prog_3_method_7_code 20 = .ok (.invokespecial 72, 3) := by decide +kernel
theorem d23_23 : decode prog_3_method_7_code 23 = .ok (.athrow, 1) := by decide +kernel
theorem d23_24 : decode prog_3_method_7_code 24 = .ok (.aload_n 0, 1) := by decide +kernel
theorem d23_25 : decode prog_3_method_7_code 25 = .ok (.getstatic 89, 3) := by decide +kernel
theorem d23_28 : decode prog_3_method_7_code 28 = .ok (.invokevirtual 95, 3) := by decide +kernel
theorem d23_31 : decode prog_3_method_7_code 31 = .ok (.arraylength, 1) := by decide +kernel
theorem d23_32 : decode prog_3_method_7_code 32 = .ok (.istore_n 1, 1) := by decide +kernel
theorem d23_33 : decode prog_3_method_7_code 33 = .ok (.iload_n 1, 1) := by decide +kernel
theorem d23_34 : decode prog_3_method_7_code 34 = .ok (.ifCond .eq 10, 3) := by decide +kernel
theorem d23_37 : decode prog_3_method_7_code 37 = .ok (.iload_n 1, 1) := by decide +kernel
theorem d23_38 : decode prog_3_method_7_code 38 = .ok (.sipush 255, 3) := by decide +kernel
theorem d23_41 : decode prog_3_method_7_code 41 = .ok (.if_icmp .le 13, 3) := by decide +kernel
theorem d23_44 : decode prog_3_method_7_code 44 = .ok (.new 56, 3) := by decide +kernel
theorem d23_47 : decode prog_3_method_7_code 47 = .ok (.dup, 1) := by decide +kernel
theorem d23_48 : decode prog_3_method_7_code 48 = .ok (.ldc 99, 2) := by decide +kernel
theorem d23_50 : decode prog_3_method_7_code 50 = .ok (.invokespecial 72, 3) := by decide +kernel
theorem d23_53 : decode prog_3_method_7_code 53 = .ok (.athrow, 1) := by decide +kernel
theorem d23_54 : decode prog_3_method_7_code 54 = .ok (.aload_n 0, 1) := by decide +kernel
theorem d23_55 : decode prog_3_method_7_code 55 = .ok (.invokestatic 101, 3) := by decide +kernel
theorem d23_58 : decode prog_3_method_7_code 58 = .ok (.ifCond .eq 13, 3) := by decide +kernel
theorem d23_61 : decode prog_3_method_7_code 61 = .ok (.new 56, 3) := by decide +kernel
theorem d23_64 : decode prog_3_method_7_code 64 = .ok (.dup, 1) := by decide +kernel
theorem d23_65 : decode prog_3_method_7_code 65 = .ok (.ldc 104, 2) := by decide +kernel
theorem d23_67 : decode prog_3_method_7_code 67 = .ok (.invokespecial 72, 3) := by decide +kernel
theorem d23_70 : decode prog_3_method_7_code 70 = .ok (.athrow, 1) := by decide +kernel
theorem d23_71 : decode prog_3_method_7_code 71 = .ok (.aload_n 0, 1) := by decide +kernel
theorem d23_72 : decode prog_3_method_7_code 72 = .ok (.areturn, 1) := by decide +kernel
theorem pd23 : parseMethodDescriptor "(Ljava/lang/String;)Ljava/lang/String;" = some ⟨[(.object "java/lang/String")], (some (.object "java/lang/String"))⟩ := by decide +kernel
theorem pn23 : plainFor y23 = true := by first | exact plainFor_of_name (by first | (simp [plainName, overriddenIn]; done) | decide +kernel) | decide +kernel | rfl
set_option maxRecDepth 65536 in
set_option maxHeartbeats 40000000 in
theorem con_chkId (l : Launch) (Z : State) (a0 : Array Value) (hw : ∀ d ∈ tables_1, d.before a0 Z = true) (h0 : Heap) (n0 : Nat) (Z0 : n0 ≤ h0.size) (s : Addr) (cs : List Int32) (S : Str Z h0 s cs) (Hx : (∃ b, Fld Z h0 s "java/lang/String" "value" "[B" (.ref b) ∧ Exa Z h0 b "[B")) (hne : ¬ cs = []) (h4 : cs.length ≤ 4) (hid : ∀ c ∈ cs, IdC c) (cz : Int32) (hcz : ¬ cz = 0) (O2 : Sta Z Z.heap "java/lang/String" "COMPACT_STRINGS" "Z" (.int cz)) (fm : Value) (rf : fm.isRef = true) (O4 : Sta Z Z.heap "jdk/internal/util/Preconditions" "SIOOBE_FORMATTER" "Ljava/util/function/BiFunction;" fm) (u8 : Addr) (U1 : Sta Z Z.heap "java/nio/charset/StandardCharsets" "UTF_8" "Ljava/nio/charset/Charset;" (.ref u8)) (U2 : Sta Z Z.heap "sun/nio/cs/UTF_8" "INSTANCE" "Lsun/nio/cs/UTF_8;" (.ref u8)) :
    Con l Z y23 prog_3_method_7_code 2 ((some (.object "java/lang/String"))) ({ frames := 5, cells := 4, slots := 28, locals := 127 } : Room) [] #[(.ref s)] none h0 n0 (fun v h τ => τ = none ∧ v = some (.ref s) ∧ Ext h0 h) := by
  refine Con.of_go pn23 (ls := #[.val (.ref s), .unset]) (fun m => by first | (simp [entryFrame, mkF, argsToLocals, Value.category]; done) | rfl) ?_
  intro κ D
  have hl := S.2.2
  have hpos : 0 < cs.length := List.length_pos_iff.mpr hne
  refine Go.aloadN D (pc' := 1) d23_0 rfl rfl rfl ?_
  refine Go.ldcR D (pc' := 3) (n := 8) (ce' := 2) (sl' := 12) (hw _ (List.mem_of_getElem? (i := 107) rfl)) (wS hw) d23_1 rfl (by decide) (by decide) rfl rfl (by decide) (by decide) ?_
  intro h1 c1 E1
  have S1 := S.ext E1
  have Z1 : n0 ≤ h1.size := Nat.le_trans Z0 E1.1
  refine Go.callS D (argsL := [(.ref s), (.ref c1)]) (rest := []) (pc' := 6) (ce' := 2) (sl' := 12) (con_rnn l Z a0 hw h1 n0 none s c1) (hw _ (List.mem_of_getElem? (i := 57) rfl)) (hw _ (List.mem_of_getElem? (i := 58) rfl)) (hw _ (List.mem_of_getElem? (i := 59) rfl)) (hw _ (List.mem_of_getElem? (i := 60) rfl)) (by decide) d23_3 rfl pd12 rfl rfl rfl (by decide) (W := 0) rfl (by decide) (by decide) (by decide) (by decide) (by decide) ?_
  intro v3 h3 σ3 q3
  obtain ⟨rfl, rfl, rfl⟩ := q3
  show Go κ none h1 2 12 6 #[.val (.ref s), .unset] [(.ref s)]
  refine Go.pop D (pc' := 7) d23_6 rfl rfl ?_
  refine Go.aloadN D (pc' := 8) d23_7 rfl rfl rfl ?_
  refine Go.callS D (argsL := [(.ref s)]) (rest := []) (pc' := 11) (ce' := 2) (sl' := 12) (con_pairs l Z a0 hw h1 n0 none s cs S1 cz hcz O2 fm rf O4) (hw _ (List.mem_of_getElem? (i := 108) rfl)) (hw _ (List.mem_of_getElem? (i := 109) rfl)) (hw _ (List.mem_of_getElem? (i := 12) rfl)) (hw _ (List.mem_of_getElem? (i := 110) rfl)) (by decide) d23_8 rfl pd24 rfl rfl rfl (by decide) (W := 0) rfl (by decide) (by decide) (by decide) (by decide) (by decide) ?_
  intro v8 h8 σ8 q8
  obtain ⟨rfl, rfl, rfl⟩ := q8
  show Go κ none h1 2 12 11 #[.val (.ref s), .unset] [(.int (1 : Int32))]
  refine Go.ifc D (pc' := 24) (pc2 := 14) d23_11 (by decide) (by decide) rfl (fun _ => ?_) (fun (hc : (1 : Int32) = 0) => absurd hc (by decide))
  refine Go.aloadN D (pc' := 25) d23_24 rfl rfl rfl ?_
  refine Go.getS D (pc' := 28) (hw _ (List.mem_of_getElem? (i := 123) rfl)) d23_25 rfl U1 ?_
  refine Go.callV D (argsL := [(.ref u8)]) (rest := []) (pc' := 31) (ce' := 4) (sl' := 28) (con_gb l Z a0 hw h1 n0 Z1 none s cs S1 (by obtain ⟨b', q1, q2⟩ := Hx; exact ⟨b', q1.ext E1, q2.ext E1⟩) h4 cz hcz O2 u8 U1 U2) (hw _ (List.mem_of_getElem? (i := 125) rfl)) (hw _ (List.mem_of_getElem? (i := 126) rfl)) (hw _ (List.mem_of_getElem? (i := 128) rfl)) (hw _ (List.mem_of_getElem? (i := 127) rfl)) (hw _ (List.mem_of_getElem? (i := 15) rfl)) (hw _ (List.mem_of_getElem? (i := 129) rfl)) (nfS (hw _ (List.mem_of_getElem? (i := 128) rfl))) (by decide) S1.1.1 d23_28 rfl pd27 rfl rfl rfl (by decide) (W := 0) rfl (by decide) (by decide) (by decide) (by decide) (by decide) ?_
  intro v28 h2 σ28 q28
  obtain ⟨rfl, d, kd, n, vs, rfl, gd, E2, D2, b1, b2⟩ := q28
  show Go κ none h2 4 28 31 #[.val (.ref s), .unset] [(.ref d)]
  refine Go.alen D (pc' := 32) d23_31 rfl D2 ?_
  refine Go.istoreN D (pc' := 33) d23_32 rfl (ls' := #[.val (.ref s), .val (.int (Int32.ofNat n))]) rfl ?_
  refine Go.iloadN D (pc' := 34) d23_33 rfl rfl ?_
  refine Go.ifc D (pc' := 44) (pc2 := 37) d23_34 (by decide) (by decide) rfl ?_ ?_
  · intro (hc34 : (Int32.ofNat n) = 0)
    exact absurd (own_inj (j := 0) (by omega) (by omega) hc34) (by omega)
  · intro (hc34 : ¬ (Int32.ofNat n) = 0)
    refine Go.iloadN D (pc' := 38) d23_37 rfl rfl ?_
    refine Go.sipush D (pc' := 41) d23_38 rfl (v := (255 : Int32)) rfl ?_
    refine Go.icmp D (pc' := 54) (pc2 := 44) d23_41 (by decide) (by decide) rfl ?_ ?_
    · intro (hc41 : ¬ (255 : Int32) < (Int32.ofNat n))
      refine Go.aloadN D (pc' := 55) d23_54 rfl rfl rfl ?_
      refine Go.callS D (argsL := [(.ref s)]) (rest := []) (pc' := 58) (ce' := 4) (sl' := 28) (con_ctrl l Z a0 hw h2 n0 none s cs (S1.ext E2) hid cz hcz O2 fm rf O4) (hw _ (List.mem_of_getElem? (i := 154) rfl)) (hw _ (List.mem_of_getElem? (i := 155) rfl)) (hw _ (List.mem_of_getElem? (i := 12) rfl)) (hw _ (List.mem_of_getElem? (i := 156) rfl)) (by decide) d23_55 rfl pd32 rfl rfl rfl (by decide) (W := 0) rfl (by decide) (by decide) (by decide) (by decide) (by decide) ?_
      intro v55 h55 σ55 q55
      obtain ⟨rfl, rfl, rfl⟩ := q55
      show Go κ none h2 4 28 58 #[.val (.ref s), .val (.int (Int32.ofNat n))] [(.int (0 : Int32))]
      refine Go.ifc D (pc' := 71) (pc2 := 61) d23_58 (by decide) (by decide) rfl (fun _ => ?_) (fun (hc : ¬ (0 : Int32) = 0) => absurd hc (by decide))
      refine Go.aloadN D (pc' := 72) d23_71 rfl rfl rfl ?_
      refine Go.aret D rfl rfl rfl d23_72 (by decide) (by decide) ?_
      exact ⟨rfl, rfl, E1.tr E2⟩
    · intro (hc41 : (255 : Int32) < (Int32.ofNat n))
      exact absurd ((own_lt (i := 255) (by omega) (by omega)).mp hc41) (by omega)
abbrev y10 : MethodName := ⟨"java/lang/Record", "<init>", "()V"⟩
theorem d10_0 : decode jdk_30_method_1_code 0 = .ok (.aload_n 0, 1) := by decide +kernel
theorem d10_1 : decode jdk_30_method_1_code 1 = .ok (.invokespecial 1, 3) := by decide +kernel
theorem d10_4 : decode jdk_30_method_1_code 4 = .ok (.return_, 1) := by decide +kernel
theorem pd10 : parseMethodDescriptor "()V" = some ⟨[], none⟩ := by decide +kernel
theorem pn10 : plainFor y10 = true := by first | exact plainFor_of_name (by first | (simp [plainName, overriddenIn]; done) | decide +kernel) | decide +kernel | rfl
set_option maxRecDepth 65536 in
set_option maxHeartbeats 40000000 in
theorem con_rec (l : Launch) (Z : State) (a0 : Array Value) (hw : ∀ d ∈ tables_1, d.before a0 Z = true) (h0 : Heap) (n0 : Nat) (σ : Sg) (t : Addr) :
    Con l Z y10 jdk_30_method_1_code 1 none ({ frames := 1, cells := 0, slots := 0, locals := 12 } : Room) [] #[(.ref t)] σ h0 n0 (fun v h τ => h0 = h ∧ σ = τ ∧ v = none) := by
  refine Con.of_go pn10 (ls := #[.val (.ref t)]) (fun m => by first | (simp [entryFrame, mkF, argsToLocals, Value.category]; done) | rfl) ?_
  intro κ D
  refine Go.aloadN D (pc' := 1) d10_0 rfl rfl rfl ?_
  refine Go.initO D (pc' := 4) (hw _ (List.mem_of_getElem? (i := 50) rfl)) (hw _ (List.mem_of_getElem? (i := 24) rfl)) (hw _ (List.mem_of_getElem? (i := 25) rfl)) d10_1 rfl rfl (by decide) (W := 0) rfl (by decide) ?_
  refine Go.vret D rfl d10_4 (by decide) (by decide) ?_
  exact ⟨rfl, rfl, rfl⟩
def TB (Z : State) (h : Heap) (t : Addr) (v1 v2 v3 : Value) : Prop := Exa Z h t "com/example/ticks_into_totals/ticksintototals/CounterName" ∧ Fld Z h t "com/example/ticks_into_totals/ticksintototals/CounterName" "ns" "Ljava/lang/String;" v1 ∧ Fld Z h t "com/example/ticks_into_totals/ticksintototals/CounterName" "id" "Ljava/lang/String;" v2 ∧ Fld Z h t "com/example/ticks_into_totals/ticksintototals/CounterName" "field" "Ljava/lang/String;" v3
theorem TB.ext {Z : State} {h h' : Heap} {t : Addr} {v1 v2 v3 : Value} (F : TB Z h t v1 v2 v3) (E : Ext h h') : TB Z h' t v1 v2 v3 := ⟨F.1.ext E, F.2.1.ext E, F.2.2.1.ext E, F.2.2.2.ext E⟩
theorem TB.keep {Z : State} {h h' : Heap} {t s : Addr} {v1 v2 v3 : Value} (F : TB Z h t v1 v2 v3) (K : Keep h h' [s]) (q : t ≠ s) : TB Z h' t v1 v2 v3 := ⟨F.1.keep K, F.2.1.keep K (nin1 q), F.2.2.1.keep K (nin1 q), F.2.2.2.keep K (nin1 q)⟩
theorem TB.set1 {Z : State} {a0 : Array Value} (hw : ∀ d ∈ tables_1, d.before a0 Z = true) {h h' : Heap} {t : Addr} {v1 v2 v3 v : Value} (F : TB Z h t v1 v2 v3) (W : Wr h h' t (Jvm.RoadKit.slotOf Z "com/example/ticks_into_totals/ticksintototals/CounterName" "ns" "Ljava/lang/String;") v) : TB Z h' t v v2 v3 := ⟨F.1.wr W, F.2.1.same W, F.2.2.1.other W (Or.inr (slot_ne (Or.inr (hw _ (List.mem_of_getElem? (i := 161) rfl))) (Or.inr (hw _ (List.mem_of_getElem? (i := 159) rfl))) (by decide) (t := .object "java/lang/String") (t' := .object "java/lang/String") (by decide) (by decide))), F.2.2.2.other W (Or.inr (slot_ne (Or.inr (hw _ (List.mem_of_getElem? (i := 163) rfl))) (Or.inr (hw _ (List.mem_of_getElem? (i := 159) rfl))) (by decide) (t := .object "java/lang/String") (t' := .object "java/lang/String") (by decide) (by decide)))⟩
theorem TB.set2 {Z : State} {a0 : Array Value} (hw : ∀ d ∈ tables_1, d.before a0 Z = true) {h h' : Heap} {t : Addr} {v1 v2 v3 v : Value} (F : TB Z h t v1 v2 v3) (W : Wr h h' t (Jvm.RoadKit.slotOf Z "com/example/ticks_into_totals/ticksintototals/CounterName" "id" "Ljava/lang/String;") v) : TB Z h' t v1 v v3 := ⟨F.1.wr W, F.2.1.other W (Or.inr (slot_ne (Or.inr (hw _ (List.mem_of_getElem? (i := 159) rfl))) (Or.inr (hw _ (List.mem_of_getElem? (i := 161) rfl))) (by decide) (t := .object "java/lang/String") (t' := .object "java/lang/String") (by decide) (by decide))), F.2.2.1.same W, F.2.2.2.other W (Or.inr (slot_ne (Or.inr (hw _ (List.mem_of_getElem? (i := 163) rfl))) (Or.inr (hw _ (List.mem_of_getElem? (i := 161) rfl))) (by decide) (t := .object "java/lang/String") (t' := .object "java/lang/String") (by decide) (by decide)))⟩
theorem TB.set3 {Z : State} {a0 : Array Value} (hw : ∀ d ∈ tables_1, d.before a0 Z = true) {h h' : Heap} {t : Addr} {v1 v2 v3 v : Value} (F : TB Z h t v1 v2 v3) (W : Wr h h' t (Jvm.RoadKit.slotOf Z "com/example/ticks_into_totals/ticksintototals/CounterName" "field" "Ljava/lang/String;") v) : TB Z h' t v1 v2 v := ⟨F.1.wr W, F.2.1.other W (Or.inr (slot_ne (Or.inr (hw _ (List.mem_of_getElem? (i := 159) rfl))) (Or.inr (hw _ (List.mem_of_getElem? (i := 163) rfl))) (by decide) (t := .object "java/lang/String") (t' := .object "java/lang/String") (by decide) (by decide))), F.2.2.1.other W (Or.inr (slot_ne (Or.inr (hw _ (List.mem_of_getElem? (i := 161) rfl))) (Or.inr (hw _ (List.mem_of_getElem? (i := 163) rfl))) (by decide) (t := .object "java/lang/String") (t' := .object "java/lang/String") (by decide) (by decide))), F.2.2.2.same W⟩

abbrev y9 : MethodName := ⟨"com/example/ticks_into_totals/ticksintototals/CounterName", "<init>", "(Ljava/lang/String;Ljava/lang/String;Ljava/lang/String;)V"⟩
theorem d9_0 : decode prog_3_method_1_code 0 = .ok (.aload_n 0, 1) := by decide +kernel
theorem d9_1 : decode prog_3_method_1_code 1 = .ok (.invokespecial 1, 3) := by decide +kernel
theorem d9_4 : decode prog_3_method_1_code 4 = .ok (.ldc 7, 2) := by decide +kernel
theorem d9_6 : decode prog_3_method_1_code 6 = .ok (.aload_n 1, 1) := by decide +kernel
theorem d9_7 : decode prog_3_method_1_code 7 = .ok (.invokestatic 9, 3) := by decide +kernel
theorem d9_10 : decode prog_3_method_1_code 10 = .ok (.pop, 1) := by decide +kernel
theorem d9_11 : decode prog_3_method_1_code 11 = .ok (.aload_n 2, 1) := by decide +kernel
theorem d9_12 : decode prog_3_method_1_code 12 = .ok (.invokestatic 15, 3) := by decide +kernel
theorem d9_15 : decode prog_3_method_1_code 15 = .ok (.pop, 1) := by decide +kernel
theorem d9_16 : decode prog_3_method_1_code 16 = .ok (.ldc 19, 2) := by decide +kernel
theorem d9_18 : decode prog_3_method_1_code 18 = .ok (.aload_n 3, 1) := by decide +kernel
theorem d9_19 : decode prog_3_method_1_code 19 = .ok (.invokestatic 9, 3) := by decide +kernel
theorem d9_22 : decode prog_3_method_1_code 22 = .ok (.pop, 1) := by decide +kernel
theorem d9_23 : decode prog_3_method_1_code 23 = .ok (.aload_n 0, 1) := by decide +kernel
theorem d9_24 : decode prog_3_method_1_code 24 = .ok (.aload_n 1, 1) := by decide +kernel
theorem d9_25 : decode prog_3_method_1_code 25 = .ok (.putfield 21, 3) := by decide +kernel
theorem d9_28 : decode prog_3_method_1_code 28 = .ok (.aload_n 0, 1) := by decide +kernel
theorem d9_29 : decode prog_3_method_1_code 29 = .ok (.aload_n 2, 1) := by decide +kernel
theorem d9_30 : decode prog_3_method_1_code 30 = .ok (.putfield 24, 3) := by decide +kernel
theorem d9_33 : decode prog_3_method_1_code 33 = .ok (.aload_n 0, 1) := by decide +kernel
theorem d9_34 : decode prog_3_method_1_code 34 = .ok (.aload_n 3, 1) := by decide +kernel
theorem d9_35 : decode prog_3_method_1_code 35 = .ok (.putfield 27, 3) := by decide +kernel
theorem d9_38 : decode prog_3_method_1_code 38 = .ok (.return_, 1) := by decide +kernel
theorem pd9 : parseMethodDescriptor "(Ljava/lang/String;Ljava/lang/String;Ljava/lang/String;)V" = some ⟨[(.object "java/lang/String"), (.object "java/lang/String"), (.object "java/lang/String")], none⟩ := by decide +kernel
theorem pn9 : plainFor y9 = true := by first | exact plainFor_of_name (by first | (simp [plainName, overriddenIn]; done) | decide +kernel) | decide +kernel | rfl
set_option maxRecDepth 65536 in
set_option maxHeartbeats 40000000 in
theorem con_ctor3 (l : Launch) (Z : State) (a0 : Array Value) (hw : ∀ d ∈ tables_1, d.before a0 Z = true) (h0 : Heap) (n0 : Nat) (Z0 : n0 ≤ h0.size) (t s1 s2 s3 : Addr) (cs1 cs2 cs3 : List Int32) (g0 : n0 ≤ t) (F : TB Z h0 t .null .null .null) (S1 : Str Z h0 s1 cs1) (S2 : Str Z h0 s2 cs2) (S3 : Str Z h0 s3 cs3) (Hx : (∃ b, Fld Z h0 s2 "java/lang/String" "value" "[B" (.ref b) ∧ Exa Z h0 b "[B")) (n1 : ¬ cs1 = []) (n2 : ¬ cs2 = []) (n3 : ¬ cs3 = []) (h4 : cs2.length ≤ 4) (ht1 : ∀ c ∈ cs1, TokC c) (hid : ∀ c ∈ cs2, IdC c) (ht3 : ∀ c ∈ cs3, TokC c) (cz : Int32) (hcz : ¬ cz = 0) (O2 : Sta Z Z.heap "java/lang/String" "COMPACT_STRINGS" "Z" (.int cz)) (fm : Value) (rf : fm.isRef = true) (O4 : Sta Z Z.heap "jdk/internal/util/Preconditions" "SIOOBE_FORMATTER" "Ljava/util/function/BiFunction;" fm) (u8 : Addr) (U1 : Sta Z Z.heap "java/nio/charset/StandardCharsets" "UTF_8" "Ljava/nio/charset/Charset;" (.ref u8)) (U2 : Sta Z Z.heap "sun/nio/cs/UTF_8" "INSTANCE" "Lsun/nio/cs/UTF_8;" (.ref u8)) :
    Con l Z y9 prog_3_method_1_code 4 none ({ frames := 6, cells := 8, slots := 64, locals := 140 } : Room) [] #[(.ref t), (.ref s1), (.ref s2), (.ref s3)] none h0 n0 (fun v h τ => τ = none ∧ v = none ∧ Keep h0 h [t] ∧ TB Z h t (.ref s1) (.ref s2) (.ref s3)) := by
  refine Con.of_go pn9 (ls := #[.val (.ref t), .val (.ref s1), .val (.ref s2), .val (.ref s3)]) (fun m => by first | (simp [entryFrame, mkF, argsToLocals, Value.category]; done) | rfl) ?_
  intro κ D
  refine Go.aloadN D (pc' := 1) d9_0 rfl rfl rfl ?_
  refine Go.callI D (argsL := []) (rest := []) (pc' := 4) (ce' := 0) (sl' := 0) (con_rec l Z a0 hw h0 n0 none t) rfl (hw _ (List.mem_of_getElem? (i := 45) rfl)) (hw _ (List.mem_of_getElem? (i := 46) rfl)) (hw _ (List.mem_of_getElem? (i := 48) rfl)) (hw _ (List.mem_of_getElem? (i := 49) rfl)) (by decide) d9_1 rfl pd10 rfl rfl rfl (by decide) (W := 0) rfl (by decide) (by decide) (by decide) (by decide) (by decide) ?_
  intro v1 h1 σ1 q1
  obtain ⟨rfl, rfl, rfl⟩ := q1
  show Go κ none h0 0 0 4 #[.val (.ref t), .val (.ref s1), .val (.ref s2), .val (.ref s3)] []
  refine Go.ldcR D (pc' := 6) (n := 8) (ce' := 2) (sl' := 12) (hw _ (List.mem_of_getElem? (i := 51) rfl)) (wS hw) d9_4 rfl (by decide) (by decide) rfl rfl (by decide) (by decide) ?_
  intro h1 c1 E1
  have Z1 : n0 ≤ h1.size := Nat.le_trans Z0 E1.1
  refine Go.aloadN D (pc' := 7) d9_6 rfl rfl rfl ?_
  refine Go.callS D (argsL := [(.ref c1), (.ref s1)]) (rest := []) (pc' := 10) (ce' := 2) (sl' := 12) (con_chTok l Z a0 hw h1 n0 none c1 s1 cs1 (S1.ext E1) n1 ht1 cz hcz O2 fm rf O4) (hw _ (List.mem_of_getElem? (i := 54) rfl)) (hw _ (List.mem_of_getElem? (i := 55) rfl)) (hw _ (List.mem_of_getElem? (i := 12) rfl)) (hw _ (List.mem_of_getElem? (i := 56) rfl)) (by decide) d9_7 rfl pd11 rfl rfl rfl (by decide) (W := 0) rfl (by decide) (by decide) (by decide) (by decide) (by decide) ?_
  intro v7 h7 σ7 q7
  obtain ⟨rfl, rfl, rfl⟩ := q7
  show Go κ none h1 2 12 10 #[.val (.ref t), .val (.ref s1), .val (.ref s2), .val (.ref s3)] [(.ref s1)]
  refine Go.pop D (pc' := 11) d9_10 rfl rfl ?_
  refine Go.aloadN D (pc' := 12) d9_11 rfl rfl rfl ?_
  refine Go.callS D (argsL := [(.ref s2)]) (rest := []) (pc' := 15) (ce' := 6) (sl' := 40) (con_chkId l Z a0 hw h1 n0 Z1 s2 cs2 (S2.ext E1) (by obtain ⟨b', q1, q2⟩ := Hx; exact ⟨b', q1.ext E1, q2.ext E1⟩) n2 h4 hid cz hcz O2 fm rf O4 u8 U1 U2) (hw _ (List.mem_of_getElem? (i := 104) rfl)) (hw _ (List.mem_of_getElem? (i := 105) rfl)) (hw _ (List.mem_of_getElem? (i := 12) rfl)) (hw _ (List.mem_of_getElem? (i := 106) rfl)) (by decide) d9_12 rfl pd23 rfl rfl rfl (by decide) (W := 0) rfl (by decide) (by decide) (by decide) (by decide) (by decide) ?_
  intro v12 h2 σ12 q12
  obtain ⟨rfl, rfl, E2⟩ := q12
  show Go κ none h2 6 40 15 #[.val (.ref t), .val (.ref s1), .val (.ref s2), .val (.ref s3)] [(.ref s2)]
  refine Go.pop D (pc' := 16) d9_15 rfl rfl ?_
  refine Go.ldcR D (pc' := 18) (n := 20) (ce' := 8) (sl' := 64) (hw _ (List.mem_of_getElem? (i := 157) rfl)) (wS hw) d9_16 rfl (by decide) (by decide) rfl rfl (by decide) (by decide) ?_
  intro h3 c3 E3
  have EE := (E1.tr E2).tr E3
  have F3 := F.ext EE
  refine Go.aloadN D (pc' := 19) d9_18 rfl rfl rfl ?_
  refine Go.callS D (argsL := [(.ref c3), (.ref s3)]) (rest := []) (pc' := 22) (ce' := 8) (sl' := 64) (con_chTok l Z a0 hw h3 n0 none c3 s3 cs3 (S3.ext EE) n3 ht3 cz hcz O2 fm rf O4) (hw _ (List.mem_of_getElem? (i := 54) rfl)) (hw _ (List.mem_of_getElem? (i := 55) rfl)) (hw _ (List.mem_of_getElem? (i := 12) rfl)) (hw _ (List.mem_of_getElem? (i := 56) rfl)) (by decide) d9_19 rfl pd11 rfl rfl rfl (by decide) (W := 0) rfl (by decide) (by decide) (by decide) (by decide) (by decide) ?_
  intro v19 h19 σ19 q19
  obtain ⟨rfl, rfl, rfl⟩ := q19
  show Go κ none h3 8 64 22 #[.val (.ref t), .val (.ref s1), .val (.ref s2), .val (.ref s3)] [(.ref s3)]
  refine Go.pop D (pc' := 23) d9_22 rfl rfl ?_
  refine Go.aloadN D (pc' := 24) d9_23 rfl rfl rfl ?_
  refine Go.aloadN D (pc' := 25) d9_24 rfl rfl rfl ?_
  refine Go.putF D (pc' := 28) (hw _ (List.mem_of_getElem? (i := 158) rfl)) d9_25 rfl F3.2.1 F3.1 (Or.inr ⟨(hw _ (List.mem_of_getElem? (i := 159) rfl)), rfl, rfl⟩) (hw _ (List.mem_of_getElem? (i := 11) rfl)) (ty := (.object "java/lang/String")) (by decide) rfl rfl g0 ?_
  intro h4' W4
  have F4 := F3.set1 hw W4
  refine Go.aloadN D (pc' := 29) d9_28 rfl rfl rfl ?_
  refine Go.aloadN D (pc' := 30) d9_29 rfl rfl rfl ?_
  refine Go.putF D (pc' := 33) (hw _ (List.mem_of_getElem? (i := 160) rfl)) d9_30 rfl F4.2.2.1 F4.1 (Or.inr ⟨(hw _ (List.mem_of_getElem? (i := 161) rfl)), rfl, rfl⟩) (hw _ (List.mem_of_getElem? (i := 11) rfl)) (ty := (.object "java/lang/String")) (by decide) rfl rfl g0 ?_
  intro h5 W5
  have F5 := F4.set2 hw W5
  refine Go.aloadN D (pc' := 34) d9_33 rfl rfl rfl ?_
  refine Go.aloadN D (pc' := 35) d9_34 rfl rfl rfl ?_
  refine Go.putF D (pc' := 38) (hw _ (List.mem_of_getElem? (i := 162) rfl)) d9_35 rfl F5.2.2.2 F5.1 (Or.inr ⟨(hw _ (List.mem_of_getElem? (i := 163) rfl)), rfl, rfl⟩) (hw _ (List.mem_of_getElem? (i := 11) rfl)) (ty := (.object "java/lang/String")) (by decide) rfl rfl g0 ?_
  intro h6 W6
  refine Go.vret D rfl d9_38 (by decide) (by decide) ?_
  exact ⟨rfl, rfl, ((((Keep.refl _ _).ext EE).wr W4 (Or.inl (by simp))).wr W5 (Or.inl (by simp))).wr W6 (Or.inl (by simp)), F5.set3 hw W6⟩
abbrev y33 : MethodName := ⟨"com/example/ticks_into_totals/ticksintototals/CounterName", "equals", "(Ljava/lang/Object;)Z"⟩
theorem d33_0 : decode prog_3_method_2_code 0 = .ok (.aload_n 1, 1) := by decide +kernel
theorem d33_1 : decode prog_3_method_2_code 1 = .ok (.instanceof 10, 3) := by decide +kernel
theorem d33_4 : decode prog_3_method_2_code 4 = .ok (.ifCond .eq 54, 3) := by decide +kernel
theorem d33_7 : decode prog_3_method_2_code 7 = .ok (.aload_n 1, 1) := by decide +kernel
theorem d33_8 : decode prog_3_method_2_code 8 = .ok (.checkcast 10, 3) := by decide +kernel
theorem d33_11 : decode prog_3_method_2_code 11 = .ok (.astore_n 2, 1) := by decide +kernel
theorem d33_12 : decode prog_3_method_2_code 12 = .ok (.aload_n 0, 1) := by decide +kernel
theorem d33_13 : decode prog_3_method_2_code 13 = .ok (.getfield 21, 3) := by decide +kernel
theorem d33_16 : decode prog_3_method_2_code 16 = .ok (.aload_n 2, 1) := by decide +kernel
theorem d33_17 : decode prog_3_method_2_code 17 = .ok (.getfield 21, 3) := by decide +kernel
theorem d33_20 : decode prog_3_method_2_code 20 = .ok (.invokevirtual 29, 3) := by decide +kernel
theorem d33_23 : decode prog_3_method_2_code 23 = .ok (.ifCond .eq 35, 3) := by decide +kernel
theorem d33_26 : decode prog_3_method_2_code 26 = .ok (.aload_n 0, 1) := by decide +kernel
theorem d33_27 : decode prog_3_method_2_code 27 = .ok (.getfield 24, 3) := by decide +kernel
theorem d33_30 : decode prog_3_method_2_code 30 = .ok (.aload_n 2, 1) := by decide +kernel
theorem d33_31 : decode prog_3_method_2_code 31 = .ok (.getfield 24, 3) := by decide +kernel
theorem d33_34 : decode prog_3_method_2_code 34 = .ok (.invokevirtual 29, 3) := by decide +kernel
theorem d33_37 : decode prog_3_method_2_code 37 = .ok (.ifCond .eq 21, 3) := by decide +kernel
theorem d33_40 : decode prog_3_method_2_code 40 = .ok (.aload_n 0, 1) := by decide +kernel
theorem d33_41 : decode prog_3_method_2_code 41 = .ok (.getfield 27, 3) := by decide +kernel
theorem d33_44 : decode prog_3_method_2_code 44 = .ok (.aload_n 2, 1) := by decide +kernel
theorem d33_45 : decode prog_3_method_2_code 45 = .ok (.getfield 27, 3) := by decide +kernel
theorem d33_48 : decode prog_3_method_2_code 48 = .ok (.invokevirtual 29, 3) := by decide +kernel
theorem d33_51 : decode prog_3_method_2_code 51 = .ok (.ifCond .eq 7, 3) := by decide +kernel
theorem d33_54 : decode prog_3_method_2_code 54 = .ok (.iconst 1, 1) := by decide +kernel
theorem d33_55 : decode prog_3_method_2_code 55 = .ok (.goto 4, 3) := by decide +kernel
theorem d33_58 : decode prog_3_method_2_code 58 = .ok (.iconst 0, 1) := by decide +kernel
theorem d33_59 : decode prog_3_method_2_code 59 = .ok (.ireturn, 1) := by decide +kernel
theorem pd33 : parseMethodDescriptor "(Ljava/lang/Object;)Z" = some ⟨[(.object "java/lang/Object")], (some .boolean)⟩ := by decide +kernel
theorem pn33 : plainFor y33 = true := by first | exact plainFor_of_name (by first | (simp [plainName, overriddenIn]; done) | decide +kernel) | decide +kernel | rfl
set_option maxRecDepth 65536 in
set_option maxHeartbeats 40000000 in
theorem con_eq3 (l : Launch) (Z : State) (a0 : Array Value) (hw : ∀ d ∈ tables_1, d.before a0 Z = true) (h0 : Heap) (n0 : Nat) (σ : Sg) (t o s1 s2 s3 u1 u2 u3 : Addr) (cs1 cs2 cs3 ds1 ds2 ds3 : List Int32) (F : TB Z h0 t (.ref s1) (.ref s2) (.ref s3)) (G : TB Z h0 o (.ref u1) (.ref u2) (.ref u3)) (S1 : Str Z h0 s1 cs1) (U1 : Str Z h0 u1 ds1) (S2 : Str Z h0 s2 cs2) (U2 : Str Z h0 u2 ds2) (S3 : Str Z h0 s3 cs3) (U3 : Str Z h0 u3 ds3) (cz : Int32) (hcz : ¬ cz = 0) (O2 : Sta Z Z.heap "java/lang/String" "COMPACT_STRINGS" "Z" (.int cz)) :
    Con l Z y33 prog_3_method_2_code 3 ((some .boolean)) ({ frames := 2, cells := 0, slots := 0, locals := 40 } : Room) [] #[(.ref t), (.ref o)] σ h0 n0 (fun v h τ => h0 = h ∧ σ = τ ∧ ∃ r, v = some (.int r) ∧ ((r = 1 ∧ cs1 = ds1 ∧ cs2 = ds2 ∧ cs3 = ds3) ∨ (r = 0 ∧ ¬ (cs1 = ds1 ∧ cs2 = ds2 ∧ cs3 = ds3)))) := by
  refine Con.of_go pn33 (ls := #[.val (.ref t), .val (.ref o), .unset]) (fun m => by first | (simp [entryFrame, mkF, argsToLocals, Value.category]; done) | rfl) ?_
  intro κ D
  refine Go.aloadN D (pc' := 1) d33_0 rfl rfl rfl ?_
  refine Go.instY D (pc' := 4) (hw _ (List.mem_of_getElem? (i := 169) rfl)) d33_1 rfl (Ins.self G.1) ?_
  refine Go.ifc D (pc' := 58) (pc2 := 7) d33_4 (by decide) (by decide) rfl (fun (hc : (1 : Int32) = 0) => absurd hc (by decide)) (fun _ => ?_)
  refine Go.aloadN D (pc' := 8) d33_7 rfl rfl rfl ?_
  refine Go.castY D (pc' := 11) (hw _ (List.mem_of_getElem? (i := 169) rfl)) d33_8 rfl (Ins.self G.1) ?_
  refine Go.astoreN D (pc' := 12) d33_11 rfl rfl (ls' := #[.val (.ref t), .val (.ref o), .val (.ref o)]) rfl ?_
  refine Go.aloadN D (pc' := 13) d33_12 rfl rfl rfl ?_
  refine Go.getF D (pc' := 16) (hw _ (List.mem_of_getElem? (i := 158) rfl)) d33_13 rfl F.2.1 ?_
  refine Go.aloadN D (pc' := 17) d33_16 rfl rfl rfl ?_
  refine Go.getF D (pc' := 20) (hw _ (List.mem_of_getElem? (i := 158) rfl)) d33_17 rfl G.2.1 ?_
  refine Go.callV D (argsL := [(.ref u1)]) (rest := []) (pc' := 23) (ce' := 0) (sl' := 0) (con_seq l Z a0 hw h0 n0 σ s1 u1 cs1 ds1 S1 U1 cz hcz O2) (hw _ (List.mem_of_getElem? (i := 171) rfl)) (hw _ (List.mem_of_getElem? (i := 172) rfl)) (hw _ (List.mem_of_getElem? (i := 174) rfl)) (hw _ (List.mem_of_getElem? (i := 173) rfl)) (hw _ (List.mem_of_getElem? (i := 15) rfl)) (hw _ (List.mem_of_getElem? (i := 175) rfl)) (nfS (hw _ (List.mem_of_getElem? (i := 174) rfl))) (by decide) S1.1.1 d33_20 rfl pd34 rfl rfl rfl (by decide) (W := 0) rfl (by decide) (by decide) (by decide) (by decide) (by decide) ?_
  intro v20 h20 σ20 q20
  obtain ⟨rfl, rfl, r1, rfl, hr1⟩ := q20
  show Go κ σ h0 0 0 23 #[.val (.ref t), .val (.ref o), .val (.ref o)] [(.int r1)]
  refine Go.ifc D (pc' := 58) (pc2 := 26) d33_23 (by decide) (by decide) rfl ?_ ?_
  · intro (hc23 : r1 = 0)
    refine Go.iconst D (pc' := 59) d33_58 rfl (v := (0 : Int32)) rfl ?_
    refine Go.zret D rfl rfl d33_59 (by decide) (by decide) ?_
    exact ⟨rfl, rfl, _, rfl, Or.inr ⟨rfl, fun q => hr1.elim (fun z => absurd hc23 (by rw [z.1]; decide)) (fun z => z.2 q.1)⟩⟩
  · intro (hc23 : ¬ r1 = 0)
    refine Go.aloadN D (pc' := 27) d33_26 rfl rfl rfl ?_
    refine Go.getF D (pc' := 30) (hw _ (List.mem_of_getElem? (i := 160) rfl)) d33_27 rfl F.2.2.1 ?_
    refine Go.aloadN D (pc' := 31) d33_30 rfl rfl rfl ?_
    refine Go.getF D (pc' := 34) (hw _ (List.mem_of_getElem? (i := 160) rfl)) d33_31 rfl G.2.2.1 ?_
    refine Go.callV D (argsL := [(.ref u2)]) (rest := []) (pc' := 37) (ce' := 0) (sl' := 0) (con_seq l Z a0 hw h0 n0 σ s2 u2 cs2 ds2 S2 U2 cz hcz O2) (hw _ (List.mem_of_getElem? (i := 171) rfl)) (hw _ (List.mem_of_getElem? (i := 172) rfl)) (hw _ (List.mem_of_getElem? (i := 174) rfl)) (hw _ (List.mem_of_getElem? (i := 173) rfl)) (hw _ (List.mem_of_getElem? (i := 15) rfl)) (hw _ (List.mem_of_getElem? (i := 175) rfl)) (nfS (hw _ (List.mem_of_getElem? (i := 174) rfl))) (by decide) S2.1.1 d33_34 rfl pd34 rfl rfl rfl (by decide) (W := 0) rfl (by decide) (by decide) (by decide) (by decide) (by decide) ?_
    intro v34 h34 σ34 q34
    obtain ⟨rfl, rfl, r2, rfl, hr2⟩ := q34
    show Go κ σ h0 0 0 37 #[.val (.ref t), .val (.ref o), .val (.ref o)] [(.int r2)]
    refine Go.ifc D (pc' := 58) (pc2 := 40) d33_37 (by decide) (by decide) rfl ?_ ?_
    · intro (hc37 : r2 = 0)
      refine Go.iconst D (pc' := 59) d33_58 rfl (v := (0 : Int32)) rfl ?_
      refine Go.zret D rfl rfl d33_59 (by decide) (by decide) ?_
      exact ⟨rfl, rfl, _, rfl, Or.inr ⟨rfl, fun q => hr2.elim (fun z => absurd hc37 (by rw [z.1]; decide)) (fun z => z.2 q.2.1)⟩⟩
    · intro (hc37 : ¬ r2 = 0)
      refine Go.aloadN D (pc' := 41) d33_40 rfl rfl rfl ?_
      refine Go.getF D (pc' := 44) (hw _ (List.mem_of_getElem? (i := 162) rfl)) d33_41 rfl F.2.2.2 ?_
      refine Go.aloadN D (pc' := 45) d33_44 rfl rfl rfl ?_
      refine Go.getF D (pc' := 48) (hw _ (List.mem_of_getElem? (i := 162) rfl)) d33_45 rfl G.2.2.2 ?_
      refine Go.callV D (argsL := [(.ref u3)]) (rest := []) (pc' := 51) (ce' := 0) (sl' := 0) (con_seq l Z a0 hw h0 n0 σ s3 u3 cs3 ds3 S3 U3 cz hcz O2) (hw _ (List.mem_of_getElem? (i := 171) rfl)) (hw _ (List.mem_of_getElem? (i := 172) rfl)) (hw _ (List.mem_of_getElem? (i := 174) rfl)) (hw _ (List.mem_of_getElem? (i := 173) rfl)) (hw _ (List.mem_of_getElem? (i := 15) rfl)) (hw _ (List.mem_of_getElem? (i := 175) rfl)) (nfS (hw _ (List.mem_of_getElem? (i := 174) rfl))) (by decide) S3.1.1 d33_48 rfl pd34 rfl rfl rfl (by decide) (W := 0) rfl (by decide) (by decide) (by decide) (by decide) (by decide) ?_
      intro v48 h48 σ48 q48
      obtain ⟨rfl, rfl, r3, rfl, hr3⟩ := q48
      show Go κ σ h0 0 0 51 #[.val (.ref t), .val (.ref o), .val (.ref o)] [(.int r3)]
      refine Go.ifc D (pc' := 58) (pc2 := 54) d33_51 (by decide) (by decide) rfl ?_ ?_
      · intro (hc51 : r3 = 0)
        refine Go.iconst D (pc' := 59) d33_58 rfl (v := (0 : Int32)) rfl ?_
        refine Go.zret D rfl rfl d33_59 (by decide) (by decide) ?_
        exact ⟨rfl, rfl, _, rfl, Or.inr ⟨rfl, fun q => hr3.elim (fun z => absurd hc51 (by rw [z.1]; decide)) (fun z => z.2 q.2.2)⟩⟩
      · intro (hc51 : ¬ r3 = 0)
        refine Go.iconst D (pc' := 55) d33_54 rfl (v := (1 : Int32)) rfl ?_
        refine Go.goto D (pc' := 59) d33_55 (by decide) (by decide) ?_
        refine Go.zret D rfl rfl d33_59 (by decide) (by decide) ?_
        exact ⟨rfl, rfl, _, rfl, Or.inl ⟨rfl, hr1.elim (fun z => z.2) (fun z => absurd z.1 hc23), hr2.elim (fun z => z.2) (fun z => absurd z.1 hc37), hr3.elim (fun z => z.2) (fun z => absurd z.1 hc51)⟩⟩
abbrev y36 : MethodName := ⟨"com/example/ticks_into_totals/ticksintototals/CounterName", "hashCode", "()I"⟩
theorem d36_0 : decode prog_3_method_3_code 0 = .ok (.aload_n 0, 1) := by decide +kernel
theorem d36_1 : decode prog_3_method_3_code 1 = .ok (.getfield 21, 3) := by decide +kernel
theorem d36_4 : decode prog_3_method_3_code 4 = .ok (.invokevirtual 35, 3) := by decide +kernel
theorem d36_7 : decode prog_3_method_3_code 7 = .ok (.bipush 31, 2) := by decide +kernel
theorem d36_9 : decode prog_3_method_3_code 9 = .ok (.imul, 1) := by decide +kernel
theorem d36_10 : decode prog_3_method_3_code 10 = .ok (.aload_n 0, 1) := by decide +kernel
theorem d36_11 : decode prog_3_method_3_code 11 = .ok (.getfield 24, 3) := by decide +kernel
theorem d36_14 : decode prog_3_method_3_code 14 = .ok (.invokevirtual 35, 3) := by decide +kernel
theorem d36_17 : decode prog_3_method_3_code 17 = .ok (.iadd, 1) := by decide +kernel
theorem d36_18 : decode prog_3_method_3_code 18 = .ok (.bipush 31, 2) := by decide +kernel
theorem d36_20 : decode prog_3_method_3_code 20 = .ok (.imul, 1) := by decide +kernel
theorem d36_21 : decode prog_3_method_3_code 21 = .ok (.aload_n 0, 1) := by decide +kernel
theorem d36_22 : decode prog_3_method_3_code 22 = .ok (.getfield 27, 3) := by decide +kernel
theorem d36_25 : decode prog_3_method_3_code 25 = .ok (.invokevirtual 35, 3) := by decide +kernel
theorem d36_28 : decode prog_3_method_3_code 28 = .ok (.iadd, 1) := by decide +kernel
theorem d36_29 : decode prog_3_method_3_code 29 = .ok (.ireturn, 1) := by decide +kernel
theorem pd36 : parseMethodDescriptor "()I" = some ⟨[], (some .int)⟩ := by decide +kernel
theorem pn36 : plainFor y36 = true := by first | exact plainFor_of_name (by first | (simp [plainName, overriddenIn]; done) | decide +kernel) | decide +kernel | rfl
set_option maxRecDepth 65536 in
set_option maxHeartbeats 40000000 in
theorem con_hash3 (l : Launch) (Z : State) (a0 : Array Value) (hw : ∀ d ∈ tables_1, d.before a0 Z = true) (h0 : Heap) (n0 : Nat) (σ : Sg) (t s1 s2 s3 : Addr) (cs1 cs2 cs3 : List Int32) (F : TB Z h0 t (.ref s1) (.ref s2) (.ref s3)) (g1 : n0 ≤ s1) (S1 : Str Z h0 s1 cs1) (H1 : HF Z h0 s1 cs1) (nt1 : t ≠ s1) (g2 : n0 ≤ s2) (S2 : Str Z h0 s2 cs2) (H2 : HF Z h0 s2 cs2) (nt2 : t ≠ s2) (g3 : n0 ≤ s3) (S3 : Str Z h0 s3 cs3) (H3 : HF Z h0 s3 cs3) (nt3 : t ≠ s3) (n12 : s1 ≠ s2) (n13 : s1 ≠ s3) (n23 : s2 ≠ s3) (cz : Int32) (hcz : ¬ cz = 0) (O2 : Sta Z Z.heap "java/lang/String" "COMPACT_STRINGS" "Z" (.int cz)) :
    Con l Z y36 prog_3_method_3_code 1 ((some .int)) ({ frames := 4, cells := 0, slots := 0, locals := 80 } : Room) [] #[(.ref t)] σ h0 n0 (fun v h τ => σ = τ ∧ v = some (.int (h3 cs1 cs2 cs3)) ∧ (∀ a y vs, SC Z h0 a y vs → SC Z h a y vs) ∧ (∀ a cs, a ≠ s1 → a ≠ s2 → a ≠ s3 → HF Z h0 a cs → HF Z h a cs) ∧ (∀ a v1 v2 v3, a ≠ s1 → a ≠ s2 → a ≠ s3 → TB Z h0 a v1 v2 v3 → TB Z h a v1 v2 v3)) := by
  refine Con.of_go pn36 (ls := #[.val (.ref t)]) (fun m => by first | (simp [entryFrame, mkF, argsToLocals, Value.category]; done) | rfl) ?_
  intro κ D
  refine Go.aloadN D (pc' := 1) d36_0 rfl rfl rfl ?_
  refine Go.getF D (pc' := 4) (hw _ (List.mem_of_getElem? (i := 158) rfl)) d36_1 rfl F.2.1 ?_
  refine Go.callV D (argsL := []) (rest := []) (pc' := 7) (ce' := 0) (sl' := 0) (con_shash l Z a0 hw h0 n0 σ s1 g1 cs1 S1 H1 cz hcz O2) (hw _ (List.mem_of_getElem? (i := 185) rfl)) (hw _ (List.mem_of_getElem? (i := 186) rfl)) (hw _ (List.mem_of_getElem? (i := 188) rfl)) (hw _ (List.mem_of_getElem? (i := 187) rfl)) (hw _ (List.mem_of_getElem? (i := 15) rfl)) (hw _ (List.mem_of_getElem? (i := 189) rfl)) (nfS (hw _ (List.mem_of_getElem? (i := 188) rfl))) (by decide) S1.1.1 d36_4 rfl pd37 rfl rfl rfl (by decide) (W := 0) rfl (by decide) (by decide) (by decide) (by decide) (by decide) ?_
  intro v4 h1' σ4 q4
  obtain ⟨rfl, rfl, k1, c1, f1⟩ := q4
  show Go κ σ h1' 0 0 7 #[.val (.ref t)] [(.int (hsh cs1))]
  have F1 := F.keep k1 nt1
  have S2a : Str Z h1' s2 cs2 := ⟨c1 _ _ _ S2.1, S2.2⟩
  have S3a : Str Z h1' s3 cs3 := ⟨c1 _ _ _ S3.1, S3.2⟩
  have H2a := H2.keep k1 (Ne.symm n12)
  have H3a := H3.keep k1 (Ne.symm n13)
  refine Go.bipush D (pc' := 9) d36_7 rfl (v := (31 : Int32)) rfl ?_
  refine Go.imul D (pc' := 10) d36_9 rfl  ?_
  refine Go.aloadN D (pc' := 11) d36_10 rfl rfl rfl ?_
  refine Go.getF D (pc' := 14) (hw _ (List.mem_of_getElem? (i := 160) rfl)) d36_11 rfl F1.2.2.1 ?_
  refine Go.callV D (argsL := []) (rest := [(.int ((hsh cs1) * (31 : Int32)))]) (pc' := 17) (ce' := 0) (sl' := 0) (con_shash l Z a0 hw h1' n0 σ s2 g2 cs2 S2a H2a cz hcz O2) (hw _ (List.mem_of_getElem? (i := 185) rfl)) (hw _ (List.mem_of_getElem? (i := 186) rfl)) (hw _ (List.mem_of_getElem? (i := 188) rfl)) (hw _ (List.mem_of_getElem? (i := 187) rfl)) (hw _ (List.mem_of_getElem? (i := 15) rfl)) (hw _ (List.mem_of_getElem? (i := 189) rfl)) (nfS (hw _ (List.mem_of_getElem? (i := 188) rfl))) (by decide) S2a.1.1 d36_14 rfl pd37 rfl rfl rfl (by decide) (W := 1) rfl (by decide) (by decide) (by decide) (by decide) (by decide) ?_
  intro v14 h2' σ14 q14
  obtain ⟨rfl, rfl, k2, c2, f2⟩ := q14
  show Go κ σ h2' 0 0 17 #[.val (.ref t)] [(.int (hsh cs2)), (.int ((hsh cs1) * (31 : Int32)))]
  have F2 := F1.keep k2 nt2
  have S3b : Str Z h2' s3 cs3 := ⟨c2 _ _ _ S3a.1, S3a.2⟩
  have H3b := H3a.keep k2 (Ne.symm n23)
  refine Go.iadd D (pc' := 18) d36_17 rfl  ?_
  refine Go.bipush D (pc' := 20) d36_18 rfl (v := (31 : Int32)) rfl ?_
  refine Go.imul D (pc' := 21) d36_20 rfl  ?_
  refine Go.aloadN D (pc' := 22) d36_21 rfl rfl rfl ?_
  refine Go.getF D (pc' := 25) (hw _ (List.mem_of_getElem? (i := 162) rfl)) d36_22 rfl F2.2.2.2 ?_
  refine Go.callV D (argsL := []) (rest := [(.int ((((hsh cs1) * (31 : Int32)) + (hsh cs2)) * (31 : Int32)))]) (pc' := 28) (ce' := 0) (sl' := 0) (con_shash l Z a0 hw h2' n0 σ s3 g3 cs3 S3b H3b cz hcz O2) (hw _ (List.mem_of_getElem? (i := 185) rfl)) (hw _ (List.mem_of_getElem? (i := 186) rfl)) (hw _ (List.mem_of_getElem? (i := 188) rfl)) (hw _ (List.mem_of_getElem? (i := 187) rfl)) (hw _ (List.mem_of_getElem? (i := 15) rfl)) (hw _ (List.mem_of_getElem? (i := 189) rfl)) (nfS (hw _ (List.mem_of_getElem? (i := 188) rfl))) (by decide) S3b.1.1 d36_25 rfl pd37 rfl rfl rfl (by decide) (W := 1) rfl (by decide) (by decide) (by decide) (by decide) (by decide) ?_
  intro v25 h3' σ25 q25
  obtain ⟨rfl, rfl, k3, c3, f3⟩ := q25
  show Go κ σ h3' 0 0 28 #[.val (.ref t)] [(.int (hsh cs3)), (.int ((((hsh cs1) * (31 : Int32)) + (hsh cs2)) * (31 : Int32)))]
  have F3 := F2.keep k3 nt3
  refine Go.iadd D (pc' := 29) d36_28 rfl  ?_
  refine Go.iret D rfl d36_29 (by decide) (by decide) ?_
  exact ⟨rfl, rfl, fun a y vs q => c3 _ _ _ (c2 _ _ _ (c1 _ _ _ q)), fun a cs q1 q2 q3 q => ((HF.keep q k1 q1).keep k2 q2).keep k3 q3, fun a v1 v2 v3 q1 q2 q3 q => ((TB.keep q k1 q1).keep k2 q2).keep k3 q3⟩
theorem pd0 : parseMethodDescriptor "(IIIII)Z" = some ⟨[.int, .int, .int, .int, .int], (some .boolean)⟩ := by decide +kernel
theorem pn0 : plainFor x = true := by first | exact plainFor_of_name (by first | (simp [plainName, overriddenIn]; done) | decide +kernel) | decide +kernel | rfl
set_option maxRecDepth 65536 in
set_option maxHeartbeats 40000000 in
theorem con_law (l : Launch) (Z : State) (a0 : Array Value) (hw : ∀ d ∈ tables_1, d.before a0 Z = true) (h0 : Heap) (n0 : Nat) (Z0 : n0 ≤ h0.size) (cz : Int32) (hcz : ¬ cz = 0) (O2 : Sta Z Z.heap "java/lang/String" "COMPACT_STRINGS" "Z" (.int cz)) (fm : Value) (rf : fm.isRef = true) (O4 : Sta Z Z.heap "jdk/internal/util/Preconditions" "SIOOBE_FORMATTER" "Ljava/util/function/BiFunction;" fm) (u8 : Addr) (U1 : Sta Z Z.heap "java/nio/charset/StandardCharsets" "UTF_8" "Ljava/nio/charset/Charset;" (.ref u8)) (U2 : Sta Z Z.heap "sun/nio/cs/UTF_8" "INSTANCE" "Lsun/nio/cs/UTF_8;" (.ref u8)) (i0 i1 i2 i3 i4 : Int32) :
    Con l Z x code maxLocals ret room_1 tables_1 #[(.int i0), (.int i1), (.int i2), (.int i3), (.int i4)] none h0 n0 (fun v h τ => v = some (.int 1)) := by
  refine Con.of_go pn0 (ls := #[.val (.int i0), .val (.int i1), .val (.int i2), .val (.int i3), .val (.int i4), .unset, .unset, .unset, .unset, .unset, .unset, .unset, .unset, .unset, .unset, .unset]) (fun m => by first | (simp [entryFrame, mkF, argsToLocals, Value.category, maxLocals]; done) | rfl) ?_
  intro κ D
  refine Go.iconst D (pc' := 1) at_0 rfl (v := (2 : Int32)) rfl ?_
  refine Go.newP D (pc' := 3) (aty := .char) (cap := 2) (ce' := 1) (sl' := 2) (hw _ (List.mem_of_getElem? (i := 0) rfl)) at_1 rfl (by decide) (by decide) (by decide) rfl rfl (by decide) (by decide) ?_
  intro h1 a5 k5 ga5 E1 A1
  have y1 := E1.1
  refine Go.dup D (pc' := 4) at_3 rfl rfl ?_
  refine Go.iconst D (pc' := 5) at_4 rfl (v := (0 : Int32)) rfl ?_
  refine Go.iloadN D (pc' := 6) at_5 rfl rfl ?_
  refine Go.ldcInt D (pc' := 8) (hw _ (List.mem_of_getElem? (i := 1) rfl)) at_6 rfl ?_
  refine Go.iand D (pc' := 9) at_8 rfl  ?_
  refine Go.callS D (argsL := [(.int (i0 &&& (65535 : Int32)))]) (rest := [(.int (0 : Int32)), (.ref a5), (.ref a5)]) (pc' := 12) (ce' := 1) (sl' := 2) (con_tok l Z a0 hw h1 n0 none (i0 &&& (65535 : Int32))) (hw _ (List.mem_of_getElem? (i := 2) rfl)) (hw _ (List.mem_of_getElem? (i := 3) rfl)) (hw _ (List.mem_of_getElem? (i := 4) rfl)) (hw _ (List.mem_of_getElem? (i := 5) rfl)) (by decide) at_9 rfl pd1 rfl rfl rfl (by decide) (W := 3) rfl (by decide) (by decide) (by decide) (by decide) (by decide) ?_
  intro v9 h9 σ9 q9
  obtain ⟨rfl, rfl, r0, rfl, hr0⟩ := q9
  show Go κ none h1 1 2 12 #[.val (.int i0), .val (.int i1), .val (.int i2), .val (.int i3), .val (.int i4), .unset, .unset, .unset, .unset, .unset, .unset, .unset, .unset, .unset, .unset, .unset] [(.int r0), (.int (0 : Int32)), (.ref a5), (.ref a5)]
  refine Go.castore D (pc' := 13) (i := 0) at_12 rfl (A1.pad (vs' := [.int 0, .int 0]) (fun i => pad_rep [] (.int 0) 2 i)) (by decide) (by decide) rfl (by simp) (by omega) (char_nar hr0.lat) ?_
  intro h12 K12 A12
  have x12 := E1.keepN K12 (by omega)
  refine Go.dup D (pc' := 14) at_13 rfl rfl ?_
  refine Go.iconst D (pc' := 15) at_14 rfl (v := (1 : Int32)) rfl ?_
  refine Go.iloadN D (pc' := 16) at_15 rfl rfl ?_
  refine Go.bipush D (pc' := 18) at_16 rfl (v := (16 : Int32)) rfl ?_
  refine Go.iushr D (pc' := 19) at_18 rfl  ?_
  refine Go.callS D (argsL := [(.int (ushr i0 (16 : Int32)))]) (rest := [(.int (1 : Int32)), (.ref a5), (.ref a5)]) (pc' := 22) (ce' := 1) (sl' := 2) (con_tok l Z a0 hw h12 n0 none (ushr i0 (16 : Int32))) (hw _ (List.mem_of_getElem? (i := 2) rfl)) (hw _ (List.mem_of_getElem? (i := 3) rfl)) (hw _ (List.mem_of_getElem? (i := 4) rfl)) (hw _ (List.mem_of_getElem? (i := 5) rfl)) (by decide) at_19 rfl pd1 rfl rfl rfl (by decide) (W := 3) rfl (by decide) (by decide) (by decide) (by decide) (by decide) ?_
  intro v19 h19 σ19 q19
  obtain ⟨rfl, rfl, r1, rfl, hr1⟩ := q19
  show Go κ none h12 1 2 22 #[.val (.int i0), .val (.int i1), .val (.int i2), .val (.int i3), .val (.int i4), .unset, .unset, .unset, .unset, .unset, .unset, .unset, .unset, .unset, .unset, .unset] [(.int r1), (.int (1 : Int32)), (.ref a5), (.ref a5)]
  refine Go.castore D (pc' := 23) (i := 1) at_22 rfl A12 (by decide) (by decide) rfl (by simp) (by omega) (char_nar hr1.lat) ?_
  intro h22 K22 A22
  have x22 := x12.keepN K22 (by omega)
  have B5 : Arv Z h22 a5 k5 .char (2 : Int32) [.int r0, .int r1] (.int 0) := A22
  have l5 := own_ltn B5.lt
  have z22 : n0 ≤ h22.size := Nat.le_trans Z0 x22.1
  refine Go.astore D (pc' := 25) at_23 rfl rfl (ls' := #[.val (.int i0), .val (.int i1), .val (.int i2), .val (.int i3), .val (.int i4), .val (.ref a5), .unset, .unset, .unset, .unset, .unset, .unset, .unset, .unset, .unset, .unset]) rfl ?_
  refine Go.iconst D (pc' := 26) at_25 rfl (v := (2 : Int32)) rfl ?_
  refine Go.newP D (pc' := 28) (aty := .char) (cap := 2) (ce' := 2) (sl' := 4) (hw _ (List.mem_of_getElem? (i := 0) rfl)) at_26 rfl (by decide) (by decide) (by decide) rfl rfl (by decide) (by decide) ?_
  intro h26 a6 k6 ga6 E26 A26
  have y26 := E26.1
  refine Go.dup D (pc' := 29) at_28 rfl rfl ?_
  refine Go.iconst D (pc' := 30) at_29 rfl (v := (0 : Int32)) rfl ?_
  refine Go.iloadN D (pc' := 31) at_30 rfl rfl ?_
  refine Go.callS D (argsL := [(.int i1)]) (rest := [(.int (0 : Int32)), (.ref a6), (.ref a6)]) (pc' := 34) (ce' := 2) (sl' := 4) (con_idc l Z a0 hw h26 n0 none i1) (hw _ (List.mem_of_getElem? (i := 7) rfl)) (hw _ (List.mem_of_getElem? (i := 8) rfl)) (hw _ (List.mem_of_getElem? (i := 4) rfl)) (hw _ (List.mem_of_getElem? (i := 9) rfl)) (by decide) at_31 rfl pd2 rfl rfl rfl (by decide) (W := 3) rfl (by decide) (by decide) (by decide) (by decide) (by decide) ?_
  intro v31 h31 σ31 q31
  obtain ⟨rfl, rfl, q0, rfl, hq0⟩ := q31
  show Go κ none h26 2 4 34 #[.val (.int i0), .val (.int i1), .val (.int i2), .val (.int i3), .val (.int i4), .val (.ref a5), .unset, .unset, .unset, .unset, .unset, .unset, .unset, .unset, .unset, .unset] [(.int q0), (.int (0 : Int32)), (.ref a6), (.ref a6)]
  refine Go.castore D (pc' := 35) (i := 0) at_34 rfl (A26.pad (vs' := [.int 0, .int 0]) (fun i => pad_rep [] (.int 0) 2 i)) (by decide) (by decide) rfl (by simp) (by omega) (char_nar hq0.lat) ?_
  intro h34 K34 A34
  have x34 := E26.keepN K34 (by omega)
  refine Go.dup D (pc' := 36) at_35 rfl rfl ?_
  refine Go.iconst D (pc' := 37) at_36 rfl (v := (1 : Int32)) rfl ?_
  refine Go.iloadN D (pc' := 38) at_37 rfl rfl ?_
  refine Go.bipush D (pc' := 40) at_38 rfl (v := (8 : Int32)) rfl ?_
  refine Go.iushr D (pc' := 41) at_40 rfl  ?_
  refine Go.callS D (argsL := [(.int (ushr i1 (8 : Int32)))]) (rest := [(.int (1 : Int32)), (.ref a6), (.ref a6)]) (pc' := 44) (ce' := 2) (sl' := 4) (con_idc l Z a0 hw h34 n0 none (ushr i1 (8 : Int32))) (hw _ (List.mem_of_getElem? (i := 7) rfl)) (hw _ (List.mem_of_getElem? (i := 8) rfl)) (hw _ (List.mem_of_getElem? (i := 4) rfl)) (hw _ (List.mem_of_getElem? (i := 9) rfl)) (by decide) at_41 rfl pd2 rfl rfl rfl (by decide) (W := 3) rfl (by decide) (by decide) (by decide) (by decide) (by decide) ?_
  intro v41 h41 σ41 q41
  obtain ⟨rfl, rfl, q1, rfl, hq1⟩ := q41
  show Go κ none h34 2 4 44 #[.val (.int i0), .val (.int i1), .val (.int i2), .val (.int i3), .val (.int i4), .val (.ref a5), .unset, .unset, .unset, .unset, .unset, .unset, .unset, .unset, .unset, .unset] [(.int q1), (.int (1 : Int32)), (.ref a6), (.ref a6)]
  refine Go.castore D (pc' := 45) (i := 1) at_44 rfl A34 (by decide) (by decide) rfl (by simp) (by omega) (char_nar hq1.lat) ?_
  intro h44 K44 A44
  have x44 := x34.keepN K44 (by omega)
  have B5 := B5.ext x44
  have l5 := own_ltn B5.lt
  have B6 : Arv Z h44 a6 k6 .char (2 : Int32) [.int q0, .int q1] (.int 0) := A44
  have l6 := own_ltn B6.lt
  have z44 : n0 ≤ h44.size := Nat.le_trans z22 x44.1
  refine Go.astore D (pc' := 47) at_45 rfl rfl (ls' := #[.val (.int i0), .val (.int i1), .val (.int i2), .val (.int i3), .val (.int i4), .val (.ref a5), .val (.ref a6), .unset, .unset, .unset, .unset, .unset, .unset, .unset, .unset, .unset]) rfl ?_
  refine Go.iconst D (pc' := 48) at_47 rfl (v := (2 : Int32)) rfl ?_
  refine Go.newP D (pc' := 50) (aty := .char) (cap := 2) (ce' := 3) (sl' := 6) (hw _ (List.mem_of_getElem? (i := 0) rfl)) at_48 rfl (by decide) (by decide) (by decide) rfl rfl (by decide) (by decide) ?_
  intro h48 a7 k7 ga7 E48 A48
  have y48 := E48.1
  refine Go.dup D (pc' := 51) at_50 rfl rfl ?_
  refine Go.iconst D (pc' := 52) at_51 rfl (v := (0 : Int32)) rfl ?_
  refine Go.iloadN D (pc' := 53) at_52 rfl rfl ?_
  refine Go.ldcInt D (pc' := 55) (hw _ (List.mem_of_getElem? (i := 1) rfl)) at_53 rfl ?_
  refine Go.iand D (pc' := 56) at_55 rfl  ?_
  refine Go.callS D (argsL := [(.int (i2 &&& (65535 : Int32)))]) (rest := [(.int (0 : Int32)), (.ref a7), (.ref a7)]) (pc' := 59) (ce' := 3) (sl' := 6) (con_tok l Z a0 hw h48 n0 none (i2 &&& (65535 : Int32))) (hw _ (List.mem_of_getElem? (i := 2) rfl)) (hw _ (List.mem_of_getElem? (i := 3) rfl)) (hw _ (List.mem_of_getElem? (i := 4) rfl)) (hw _ (List.mem_of_getElem? (i := 5) rfl)) (by decide) at_56 rfl pd1 rfl rfl rfl (by decide) (W := 3) rfl (by decide) (by decide) (by decide) (by decide) (by decide) ?_
  intro v56 h56 σ56 q56
  obtain ⟨rfl, rfl, t0, rfl, ht0⟩ := q56
  show Go κ none h48 3 6 59 #[.val (.int i0), .val (.int i1), .val (.int i2), .val (.int i3), .val (.int i4), .val (.ref a5), .val (.ref a6), .unset, .unset, .unset, .unset, .unset, .unset, .unset, .unset, .unset] [(.int t0), (.int (0 : Int32)), (.ref a7), (.ref a7)]
  refine Go.castore D (pc' := 60) (i := 0) at_59 rfl (A48.pad (vs' := [.int 0, .int 0]) (fun i => pad_rep [] (.int 0) 2 i)) (by decide) (by decide) rfl (by simp) (by omega) (char_nar ht0.lat) ?_
  intro h59 K59 A59
  have x59 := E48.keepN K59 (by omega)
  refine Go.dup D (pc' := 61) at_60 rfl rfl ?_
  refine Go.iconst D (pc' := 62) at_61 rfl (v := (1 : Int32)) rfl ?_
  refine Go.iloadN D (pc' := 63) at_62 rfl rfl ?_
  refine Go.bipush D (pc' := 65) at_63 rfl (v := (16 : Int32)) rfl ?_
  refine Go.iushr D (pc' := 66) at_65 rfl  ?_
  refine Go.callS D (argsL := [(.int (ushr i2 (16 : Int32)))]) (rest := [(.int (1 : Int32)), (.ref a7), (.ref a7)]) (pc' := 69) (ce' := 3) (sl' := 6) (con_tok l Z a0 hw h59 n0 none (ushr i2 (16 : Int32))) (hw _ (List.mem_of_getElem? (i := 2) rfl)) (hw _ (List.mem_of_getElem? (i := 3) rfl)) (hw _ (List.mem_of_getElem? (i := 4) rfl)) (hw _ (List.mem_of_getElem? (i := 5) rfl)) (by decide) at_66 rfl pd1 rfl rfl rfl (by decide) (W := 3) rfl (by decide) (by decide) (by decide) (by decide) (by decide) ?_
  intro v66 h66 σ66 q66
  obtain ⟨rfl, rfl, t1, rfl, ht1⟩ := q66
  show Go κ none h59 3 6 69 #[.val (.int i0), .val (.int i1), .val (.int i2), .val (.int i3), .val (.int i4), .val (.ref a5), .val (.ref a6), .unset, .unset, .unset, .unset, .unset, .unset, .unset, .unset, .unset] [(.int t1), (.int (1 : Int32)), (.ref a7), (.ref a7)]
  refine Go.castore D (pc' := 70) (i := 1) at_69 rfl A59 (by decide) (by decide) rfl (by simp) (by omega) (char_nar ht1.lat) ?_
  intro h69 K69 A69
  have x69 := x59.keepN K69 (by omega)
  have B5 := B5.ext x69
  have l5 := own_ltn B5.lt
  have B6 := B6.ext x69
  have l6 := own_ltn B6.lt
  have B7 : Arv Z h69 a7 k7 .char (2 : Int32) [.int t0, .int t1] (.int 0) := A69
  have l7 := own_ltn B7.lt
  have z69 : n0 ≤ h69.size := Nat.le_trans z44 x69.1
  refine Go.astore D (pc' := 72) at_70 rfl rfl (ls' := #[.val (.int i0), .val (.int i1), .val (.int i2), .val (.int i3), .val (.int i4), .val (.ref a5), .val (.ref a6), .val (.ref a7), .unset, .unset, .unset, .unset, .unset, .unset, .unset, .unset]) rfl ?_
  refine Go.iconst D (pc' := 73) at_72 rfl (v := (2 : Int32)) rfl ?_
  refine Go.newP D (pc' := 75) (aty := .char) (cap := 2) (ce' := 4) (sl' := 8) (hw _ (List.mem_of_getElem? (i := 0) rfl)) at_73 rfl (by decide) (by decide) (by decide) rfl rfl (by decide) (by decide) ?_
  intro h73 a8 k8 ga8 E73 A73
  have y73 := E73.1
  refine Go.dup D (pc' := 76) at_75 rfl rfl ?_
  refine Go.iconst D (pc' := 77) at_76 rfl (v := (0 : Int32)) rfl ?_
  refine Go.aload D (pc' := 79) at_77 rfl rfl rfl ?_
  refine Go.iconst D (pc' := 80) at_79 rfl (v := (0 : Int32)) rfl ?_
  refine Go.caload D (pc' := 81) at_80 rfl (B5.ext E73) (by decide) (by decide) (v := .int r0) rfl ?_
  refine Go.castore D (pc' := 82) (i := 0) at_81 rfl (A73.pad (vs' := [.int 0, .int 0]) (fun i => pad_rep [] (.int 0) 2 i)) (by decide) (by decide) rfl (by simp) (by omega) (char_nar hr0.lat) ?_
  intro h81 K81 A81
  have x81 := E73.keepN K81 (by omega)
  refine Go.dup D (pc' := 83) at_82 rfl rfl ?_
  refine Go.iconst D (pc' := 84) at_83 rfl (v := (1 : Int32)) rfl ?_
  refine Go.aload D (pc' := 86) at_84 rfl rfl rfl ?_
  refine Go.iconst D (pc' := 87) at_86 rfl (v := (1 : Int32)) rfl ?_
  refine Go.caload D (pc' := 88) at_87 rfl (B5.ext x81) (by decide) (by decide) (v := .int r1) rfl ?_
  refine Go.castore D (pc' := 89) (i := 1) at_88 rfl A81 (by decide) (by decide) rfl (by simp) (by omega) (char_nar hr1.lat) ?_
  intro h88 K88 A88
  have x88 := x81.keepN K88 (by omega)
  have B5 := B5.ext x88
  have l5 := own_ltn B5.lt
  have B6 := B6.ext x88
  have l6 := own_ltn B6.lt
  have B7 := B7.ext x88
  have l7 := own_ltn B7.lt
  have B8 : Arv Z h88 a8 k8 .char (2 : Int32) [.int r0, .int r1] (.int 0) := A88
  have l8 := own_ltn B8.lt
  have z88 : n0 ≤ h88.size := Nat.le_trans z69 x88.1
  refine Go.astore D (pc' := 91) at_89 rfl rfl (ls' := #[.val (.int i0), .val (.int i1), .val (.int i2), .val (.int i3), .val (.int i4), .val (.ref a5), .val (.ref a6), .val (.ref a7), .val (.ref a8), .unset, .unset, .unset, .unset, .unset, .unset, .unset]) rfl ?_
  refine Go.iconst D (pc' := 92) at_91 rfl (v := (2 : Int32)) rfl ?_
  refine Go.newP D (pc' := 94) (aty := .char) (cap := 2) (ce' := 5) (sl' := 10) (hw _ (List.mem_of_getElem? (i := 0) rfl)) at_92 rfl (by decide) (by decide) (by decide) rfl rfl (by decide) (by decide) ?_
  intro h92 a9 k9 ga9 E92 A92
  have y92 := E92.1
  refine Go.dup D (pc' := 95) at_94 rfl rfl ?_
  refine Go.iconst D (pc' := 96) at_95 rfl (v := (0 : Int32)) rfl ?_
  refine Go.aload D (pc' := 98) at_96 rfl rfl rfl ?_
  refine Go.iconst D (pc' := 99) at_98 rfl (v := (0 : Int32)) rfl ?_
  refine Go.caload D (pc' := 100) at_99 rfl (B6.ext E92) (by decide) (by decide) (v := .int q0) rfl ?_
  refine Go.castore D (pc' := 101) (i := 0) at_100 rfl (A92.pad (vs' := [.int 0, .int 0]) (fun i => pad_rep [] (.int 0) 2 i)) (by decide) (by decide) rfl (by simp) (by omega) (char_nar hq0.lat) ?_
  intro h100 K100 A100
  have x100 := E92.keepN K100 (by omega)
  refine Go.dup D (pc' := 102) at_101 rfl rfl ?_
  refine Go.iconst D (pc' := 103) at_102 rfl (v := (1 : Int32)) rfl ?_
  refine Go.aload D (pc' := 105) at_103 rfl rfl rfl ?_
  refine Go.iconst D (pc' := 106) at_105 rfl (v := (1 : Int32)) rfl ?_
  refine Go.caload D (pc' := 107) at_106 rfl (B6.ext x100) (by decide) (by decide) (v := .int q1) rfl ?_
  refine Go.castore D (pc' := 108) (i := 1) at_107 rfl A100 (by decide) (by decide) rfl (by simp) (by omega) (char_nar hq1.lat) ?_
  intro h107 K107 A107
  have x107 := x100.keepN K107 (by omega)
  have B5 := B5.ext x107
  have l5 := own_ltn B5.lt
  have B6 := B6.ext x107
  have l6 := own_ltn B6.lt
  have B7 := B7.ext x107
  have l7 := own_ltn B7.lt
  have B8 := B8.ext x107
  have l8 := own_ltn B8.lt
  have B9 : Arv Z h107 a9 k9 .char (2 : Int32) [.int q0, .int q1] (.int 0) := A107
  have l9 := own_ltn B9.lt
  have z107 : n0 ≤ h107.size := Nat.le_trans z88 x107.1
  refine Go.astore D (pc' := 110) at_108 rfl rfl (ls' := #[.val (.int i0), .val (.int i1), .val (.int i2), .val (.int i3), .val (.int i4), .val (.ref a5), .val (.ref a6), .val (.ref a7), .val (.ref a8), .val (.ref a9), .unset, .unset, .unset, .unset, .unset, .unset]) rfl ?_
  refine Go.iconst D (pc' := 111) at_110 rfl (v := (2 : Int32)) rfl ?_
  refine Go.newP D (pc' := 113) (aty := .char) (cap := 2) (ce' := 6) (sl' := 12) (hw _ (List.mem_of_getElem? (i := 0) rfl)) at_111 rfl (by decide) (by decide) (by decide) rfl rfl (by decide) (by decide) ?_
  intro h111 a10 k10 ga10 E111 A111
  have y111 := E111.1
  refine Go.dup D (pc' := 114) at_113 rfl rfl ?_
  refine Go.iconst D (pc' := 115) at_114 rfl (v := (0 : Int32)) rfl ?_
  refine Go.aload D (pc' := 117) at_115 rfl rfl rfl ?_
  refine Go.iconst D (pc' := 118) at_117 rfl (v := (0 : Int32)) rfl ?_
  refine Go.caload D (pc' := 119) at_118 rfl (B7.ext E111) (by decide) (by decide) (v := .int t0) rfl ?_
  refine Go.castore D (pc' := 120) (i := 0) at_119 rfl (A111.pad (vs' := [.int 0, .int 0]) (fun i => pad_rep [] (.int 0) 2 i)) (by decide) (by decide) rfl (by simp) (by omega) (char_nar ht0.lat) ?_
  intro h119 K119 A119
  have x119 := E111.keepN K119 (by omega)
  refine Go.dup D (pc' := 121) at_120 rfl rfl ?_
  refine Go.iconst D (pc' := 122) at_121 rfl (v := (1 : Int32)) rfl ?_
  refine Go.aload D (pc' := 124) at_122 rfl rfl rfl ?_
  refine Go.iconst D (pc' := 125) at_124 rfl (v := (1 : Int32)) rfl ?_
  refine Go.caload D (pc' := 126) at_125 rfl (B7.ext x119) (by decide) (by decide) (v := .int t1) rfl ?_
  refine Go.castore D (pc' := 127) (i := 1) at_126 rfl A119 (by decide) (by decide) rfl (by simp) (by omega) (char_nar ht1.lat) ?_
  intro h126 K126 A126
  have x126 := x119.keepN K126 (by omega)
  have B5 := B5.ext x126
  have l5 := own_ltn B5.lt
  have B6 := B6.ext x126
  have l6 := own_ltn B6.lt
  have B7 := B7.ext x126
  have l7 := own_ltn B7.lt
  have B8 := B8.ext x126
  have l8 := own_ltn B8.lt
  have B9 := B9.ext x126
  have l9 := own_ltn B9.lt
  have B10 : Arv Z h126 a10 k10 .char (2 : Int32) [.int t0, .int t1] (.int 0) := A126
  have l10 := own_ltn B10.lt
  have z126 : n0 ≤ h126.size := Nat.le_trans z107 x126.1
  refine Go.astore D (pc' := 129) at_127 rfl rfl (ls' := #[.val (.int i0), .val (.int i1), .val (.int i2), .val (.int i3), .val (.int i4), .val (.ref a5), .val (.ref a6), .val (.ref a7), .val (.ref a8), .val (.ref a9), .val (.ref a10), .unset, .unset, .unset, .unset, .unset]) rfl ?_
  refine Go.iloadN D (pc' := 130) at_129 rfl rfl ?_
  refine Go.ldcInt D (pc' := 132) (hw _ (List.mem_of_getElem? (i := 6) rfl)) at_130 rfl ?_
  refine Go.iand D (pc' := 133) at_132 rfl  ?_
  refine Go.bipush D (pc' := 135) at_133 rfl (v := (7 : Int32)) rfl ?_
  refine Go.irem D (pc' := 136) at_135 rfl (by decide) ?_
  obtain ⟨m, hm⟩ : ∃ m, m = ((i3 &&& (2147483647 : Int32)) % (7 : Int32)) := ⟨_, rfl⟩
  rw [← hm]
  refine Go.istore D (pc' := 138) at_136 rfl (ls' := #[.val (.int i0), .val (.int i1), .val (.int i2), .val (.int i3), .val (.int i4), .val (.ref a5), .val (.ref a6), .val (.ref a7), .val (.ref a8), .val (.ref a9), .val (.ref a10), .val (.int m), .unset, .unset, .unset, .unset]) rfl ?_
  have J242 : ∀ (h : Heap) (x0 x1 y0 y1 z0 z1 : Int32), n0 ≤ h.size → Arv Z h a5 k5 .char (2 : Int32) [.int r0, .int r1] (.int 0) → Arv Z h a6 k6 .char (2 : Int32) [.int q0, .int q1] (.int 0) → Arv Z h a7 k7 .char (2 : Int32) [.int t0, .int t1] (.int 0) → Arv Z h a8 k8 .char (2 : Int32) [.int x0, .int x1] (.int 0) → Arv Z h a9 k9 .char (2 : Int32) [.int y0, .int y1] (.int 0) → Arv Z h a10 k10 .char (2 : Int32) [.int z0, .int z1] (.int 0) → TokC x0 → TokC x1 → IdC y0 → IdC y1 → TokC z0 → TokC z1 → Near r0 r1 q0 q1 t0 t1 x0 x1 y0 y1 z0 z1 → Go κ none h 6 12 242 #[.val (.int i0), .val (.int i1), .val (.int i2), .val (.int i3), .val (.int i4), .val (.ref a5), .val (.ref a6), .val (.ref a7), .val (.ref a8), .val (.ref a9), .val (.ref a10), .val (.int m), .unset, .unset, .unset, .unset] [] := by
    clear B5 B6 B7 B8 B9 B10 l5 l6 l7 l8 l9 l10
    intro h x0 x1 y0 y1 z0 z1 zh B5 B6 B7 B8 B9 B10 hx0 hx1 hy0 hy1 hz0 hz1 hN
    have ht1 : ∀ c ∈ [r0, r1], TokC c := by
      intro c hc
      simp only [List.mem_cons, List.not_mem_nil, or_false] at hc
      rcases hc with rfl | rfl <;> assumption
    have ht3 : ∀ c ∈ [t0, t1], TokC c := by
      intro c hc
      simp only [List.mem_cons, List.not_mem_nil, or_false] at hc
      rcases hc with rfl | rfl <;> assumption
    have hu1 : ∀ c ∈ [x0, x1], TokC c := by
      intro c hc
      simp only [List.mem_cons, List.not_mem_nil, or_false] at hc
      rcases hc with rfl | rfl <;> assumption
    have hu3 : ∀ c ∈ [z0, z1], TokC c := by
      intro c hc
      simp only [List.mem_cons, List.not_mem_nil, or_false] at hc
      rcases hc with rfl | rfl <;> assumption
    have hid1 : ∀ c ∈ [q0, q1], IdC c := by
      intro c hc
      simp only [List.mem_cons, List.not_mem_nil, or_false] at hc
      rcases hc with rfl | rfl <;> assumption
    have hid2 : ∀ c ∈ [y0, y1], IdC c := by
      intro c hc
      simp only [List.mem_cons, List.not_mem_nil, or_false] at hc
      rcases hc with rfl | rfl <;> assumption
    refine Go.newO D (pc' := 245) (ce' := 7) (sl' := 15) (hw _ (List.mem_of_getElem? (i := 10) rfl)) (hw _ (List.mem_of_getElem? (i := 11) rfl)) (hw _ (List.mem_of_getElem? (i := 12) rfl)) at_242 rfl rfl rfl (by decide) (by decide) ?_
    intro h242 t gt E242 X242 D242
    have Pt : TB Z h242 t .null .null .null := ⟨X242, D242 (Or.inr (hw _ (List.mem_of_getElem? (i := 159) rfl))) (ty := .object "java/lang/String") (by decide), D242 (Or.inr (hw _ (List.mem_of_getElem? (i := 161) rfl))) (ty := .object "java/lang/String") (by decide), D242 (Or.inr (hw _ (List.mem_of_getElem? (i := 163) rfl))) (ty := .object "java/lang/String") (by decide)⟩
    have z242 : n0 ≤ h242.size := Nat.le_trans zh E242.1
    have lt := own_ltn X242.lt
    have x242 := E242
    have gt0 : n0 ≤ t := by omega
    refine Go.dup D (pc' := 246) at_245 rfl rfl ?_
    refine Go.newO D (pc' := 249) (ce' := 8) (sl' := 19) (hw _ (List.mem_of_getElem? (i := 13) rfl)) (hw _ (List.mem_of_getElem? (i := 14) rfl)) (hw _ (List.mem_of_getElem? (i := 15) rfl)) at_246 rfl rfl rfl (by decide) (by decide) ?_
    intro h246 s1 gs1 E246 X246 D246
    have V246 : Fld Z h246 s1 "java/lang/String" "value" "[B" .null := D246 (Or.inr (hw _ (List.mem_of_getElem? (i := 41) rfl))) (ty := .array .byte) (by decide)
    have C246 : Fld Z h246 s1 "java/lang/String" "coder" "B" (.int 0) := D246 (Or.inr (hw _ (List.mem_of_getElem? (i := 39) rfl))) (ty := .byte) (by decide)
    have Fh246 : Fld Z h246 s1 "java/lang/String" "hash" "I" (.int 0) := D246 (Or.inl (hw _ (List.mem_of_getElem? (i := 191) rfl))) (ty := .int) (by decide)
    have Fz246 : Fld Z h246 s1 "java/lang/String" "hashIsZero" "Z" (.int 0) := D246 (Or.inl (hw _ (List.mem_of_getElem? (i := 193) rfl))) (ty := .boolean) (by decide)
    have z246 : n0 ≤ h246.size := Nat.le_trans z242 E246.1
    have ls1 := own_ltn X246.lt
    refine Go.dup D (pc' := 250) at_249 rfl rfl ?_
    refine Go.aload D (pc' := 252) at_250 rfl rfl rfl ?_
    have hl252 : Lat [r0, r1] := ⟨fun c hc => (ht1 c hc).lat, by simp⟩
    refine Go.callI D (argsL := [(.ref a5)]) (rest := [(.ref s1), (.ref t), (.ref t)]) (pc' := 255) (ce' := 9) (sl' := 83) (con_strN l Z a0 hw h246 n0 z246 none s1 a5 k5 [r0, r1] (B5.ext (x242.tr E246)) hl252 (by simp) cz hcz O2 (by omega) X246 V246 C246 Fh246 Fz246) rfl (hw _ (List.mem_of_getElem? (i := 16) rfl)) (hw _ (List.mem_of_getElem? (i := 17) rfl)) (hw _ (List.mem_of_getElem? (i := 15) rfl)) (hw _ (List.mem_of_getElem? (i := 18) rfl)) (by decide) at_252 rfl pd3 rfl rfl rfl (by decide) (W := 3) rfl (by decide) (by decide) (by decide) (by decide) (by decide) ?_
    intro v252 h252 σ252 q252
    obtain ⟨rfl, rfl, kk252, Ss1, Hs1⟩ := q252
    show Go κ none h252 9 83 255 #[.val (.int i0), .val (.int i1), .val (.int i2), .val (.int i3), .val (.int i4), .val (.ref a5), .val (.ref a6), .val (.ref a7), .val (.ref a8), .val (.ref a9), .val (.ref a10), .val (.int m), .unset, .unset, .unset, .unset] [(.ref s1), (.ref t), (.ref t)]
    have e252 := E246.keepN kk252 (by omega)
    have x252 := x242.tr e252
    have z252 : n0 ≤ h252.size := Nat.le_trans z246 kk252.1
    have ll252 := kk252.1
    have Pt := Pt.ext e252
    refine Go.newO D (pc' := 258) (ce' := 10) (sl' := 87) (hw _ (List.mem_of_getElem? (i := 13) rfl)) (hw _ (List.mem_of_getElem? (i := 14) rfl)) (hw _ (List.mem_of_getElem? (i := 15) rfl)) at_255 rfl rfl rfl (by decide) (by decide) ?_
    intro h255 s2 gs2 E255 X255 D255
    have V255 : Fld Z h255 s2 "java/lang/String" "value" "[B" .null := D255 (Or.inr (hw _ (List.mem_of_getElem? (i := 41) rfl))) (ty := .array .byte) (by decide)
    have C255 : Fld Z h255 s2 "java/lang/String" "coder" "B" (.int 0) := D255 (Or.inr (hw _ (List.mem_of_getElem? (i := 39) rfl))) (ty := .byte) (by decide)
    have Fh255 : Fld Z h255 s2 "java/lang/String" "hash" "I" (.int 0) := D255 (Or.inl (hw _ (List.mem_of_getElem? (i := 191) rfl))) (ty := .int) (by decide)
    have Fz255 : Fld Z h255 s2 "java/lang/String" "hashIsZero" "Z" (.int 0) := D255 (Or.inl (hw _ (List.mem_of_getElem? (i := 193) rfl))) (ty := .boolean) (by decide)
    have z255 : n0 ≤ h255.size := Nat.le_trans z252 E255.1
    have ls2 := own_ltn X255.lt
    refine Go.dup D (pc' := 259) at_258 rfl rfl ?_
    refine Go.aload D (pc' := 261) at_259 rfl rfl rfl ?_
    have hl261 : Lat [q0, q1] := ⟨fun c hc => (hid1 c hc).lat, by simp⟩
    refine Go.callI D (argsL := [(.ref a6)]) (rest := [(.ref s2), (.ref s1), (.ref t), (.ref t)]) (pc' := 264) (ce' := 11) (sl' := 151) (con_strN l Z a0 hw h255 n0 z255 none s2 a6 k6 [q0, q1] (B6.ext (x252.tr E255)) hl261 (by simp) cz hcz O2 (by omega) X255 V255 C255 Fh255 Fz255) rfl (hw _ (List.mem_of_getElem? (i := 16) rfl)) (hw _ (List.mem_of_getElem? (i := 17) rfl)) (hw _ (List.mem_of_getElem? (i := 15) rfl)) (hw _ (List.mem_of_getElem? (i := 18) rfl)) (by decide) at_261 rfl pd3 rfl rfl rfl (by decide) (W := 4) rfl (by decide) (by decide) (by decide) (by decide) (by decide) ?_
    intro v261 h261 σ261 q261
    obtain ⟨rfl, rfl, kk261, Ss2, Hs2⟩ := q261
    show Go κ none h261 11 151 264 #[.val (.int i0), .val (.int i1), .val (.int i2), .val (.int i3), .val (.int i4), .val (.ref a5), .val (.ref a6), .val (.ref a7), .val (.ref a8), .val (.ref a9), .val (.ref a10), .val (.int m), .unset, .unset, .unset, .unset] [(.ref s2), (.ref s1), (.ref t), (.ref t)]
    have e261 := E255.keepN kk261 (by omega)
    have x261 := x252.tr e261
    have z261 : n0 ≤ h261.size := Nat.le_trans z255 kk261.1
    have ll261 := kk261.1
    have Pt := Pt.ext e261
    have Ss1 := Ss1.ext e261
    have Hs1 := Hs1.ext e261
    refine Go.newO D (pc' := 267) (ce' := 12) (sl' := 155) (hw _ (List.mem_of_getElem? (i := 13) rfl)) (hw _ (List.mem_of_getElem? (i := 14) rfl)) (hw _ (List.mem_of_getElem? (i := 15) rfl)) at_264 rfl rfl rfl (by decide) (by decide) ?_
    intro h264 s3 gs3 E264 X264 D264
    have V264 : Fld Z h264 s3 "java/lang/String" "value" "[B" .null := D264 (Or.inr (hw _ (List.mem_of_getElem? (i := 41) rfl))) (ty := .array .byte) (by decide)
    have C264 : Fld Z h264 s3 "java/lang/String" "coder" "B" (.int 0) := D264 (Or.inr (hw _ (List.mem_of_getElem? (i := 39) rfl))) (ty := .byte) (by decide)
    have Fh264 : Fld Z h264 s3 "java/lang/String" "hash" "I" (.int 0) := D264 (Or.inl (hw _ (List.mem_of_getElem? (i := 191) rfl))) (ty := .int) (by decide)
    have Fz264 : Fld Z h264 s3 "java/lang/String" "hashIsZero" "Z" (.int 0) := D264 (Or.inl (hw _ (List.mem_of_getElem? (i := 193) rfl))) (ty := .boolean) (by decide)
    have z264 : n0 ≤ h264.size := Nat.le_trans z261 E264.1
    have ls3 := own_ltn X264.lt
    refine Go.dup D (pc' := 268) at_267 rfl rfl ?_
    refine Go.aload D (pc' := 270) at_268 rfl rfl rfl ?_
    have hl270 : Lat [t0, t1] := ⟨fun c hc => (ht3 c hc).lat, by simp⟩
    refine Go.callI D (argsL := [(.ref a7)]) (rest := [(.ref s3), (.ref s2), (.ref s1), (.ref t), (.ref t)]) (pc' := 273) (ce' := 13) (sl' := 219) (con_strN l Z a0 hw h264 n0 z264 none s3 a7 k7 [t0, t1] (B7.ext (x261.tr E264)) hl270 (by simp) cz hcz O2 (by omega) X264 V264 C264 Fh264 Fz264) rfl (hw _ (List.mem_of_getElem? (i := 16) rfl)) (hw _ (List.mem_of_getElem? (i := 17) rfl)) (hw _ (List.mem_of_getElem? (i := 15) rfl)) (hw _ (List.mem_of_getElem? (i := 18) rfl)) (by decide) at_270 rfl pd3 rfl rfl rfl (by decide) (W := 5) rfl (by decide) (by decide) (by decide) (by decide) (by decide) ?_
    intro v270 h270 σ270 q270
    obtain ⟨rfl, rfl, kk270, Ss3, Hs3⟩ := q270
    show Go κ none h270 13 219 273 #[.val (.int i0), .val (.int i1), .val (.int i2), .val (.int i3), .val (.int i4), .val (.ref a5), .val (.ref a6), .val (.ref a7), .val (.ref a8), .val (.ref a9), .val (.ref a10), .val (.int m), .unset, .unset, .unset, .unset] [(.ref s3), (.ref s2), (.ref s1), (.ref t), (.ref t)]
    have e270 := E264.keepN kk270 (by omega)
    have x270 := x261.tr e270
    have z270 : n0 ≤ h270.size := Nat.le_trans z264 kk270.1
    have ll270 := kk270.1
    have Pt := Pt.ext e270
    have Ss1 := Ss1.ext e270
    have Hs1 := Hs1.ext e270
    have Ss2 := Ss2.ext e270
    have Hs2 := Hs2.ext e270
    have ns1 : s1 ≠ t := own_ne (by omega)
    have ns2 : s2 ≠ t := own_ne (by omega)
    have ns3 : s3 ≠ t := own_ne (by omega)
    refine Go.callI D (argsL := [(.ref s1), (.ref s2), (.ref s3)]) (rest := [(.ref t)]) (pc' := 276) (ce' := 21) (sl' := 283) (con_ctor3 l Z a0 hw h270 n0 z270 t s1 s2 s3 [r0, r1] [q0, q1] [t0, t1] gt0 Pt Ss1 Ss2 Ss3 (Hs2.2.2 (by simp)) (by simp) (by simp) (by simp) (by simp) ht1 hid1 ht3 cz hcz O2 fm rf O4 u8 U1 U2) rfl (hw _ (List.mem_of_getElem? (i := 42) rfl)) (hw _ (List.mem_of_getElem? (i := 43) rfl)) (hw _ (List.mem_of_getElem? (i := 12) rfl)) (hw _ (List.mem_of_getElem? (i := 44) rfl)) (by decide) at_273 rfl pd9 rfl rfl rfl (by decide) (W := 1) rfl (by decide) (by decide) (by decide) (by decide) (by decide) ?_
    intro v273 h273 σ273 q273
    obtain ⟨rfl, rfl, kt273, Qt⟩ := q273
    show Go κ none h273 21 283 276 #[.val (.int i0), .val (.int i1), .val (.int i2), .val (.int i3), .val (.int i4), .val (.ref a5), .val (.ref a6), .val (.ref a7), .val (.ref a8), .val (.ref a9), .val (.ref a10), .val (.int m), .unset, .unset, .unset, .unset] [(.ref t)]
    have Ss1 := Ss1.keep kt273 ns1 Pt.1 (hw _ (List.mem_of_getElem? (i := 11) rfl))
    have Hs1 := (SH.hf Hs1).keep kt273 ns1
    have Ss2 := Ss2.keep kt273 ns2 Pt.1 (hw _ (List.mem_of_getElem? (i := 11) rfl))
    have Hs2 := (SH.hf Hs2).keep kt273 ns2
    have Ss3 := Ss3.keep kt273 ns3 Pt.1 (hw _ (List.mem_of_getElem? (i := 11) rfl))
    have Hs3 := (SH.hf Hs3).keep kt273 ns3
    have x273 := x270.keepN kt273 (by omega)
    have z273 : n0 ≤ h273.size := Nat.le_trans z270 kt273.1
    have ll273 := kt273.1
    have B8 := B8.ext x273
    have B9 := B9.ext x273
    have B10 := B10.ext x273
    refine Go.astore D (pc' := 278) at_276 rfl rfl (ls' := #[.val (.int i0), .val (.int i1), .val (.int i2), .val (.int i3), .val (.int i4), .val (.ref a5), .val (.ref a6), .val (.ref a7), .val (.ref a8), .val (.ref a9), .val (.ref a10), .val (.int m), .val (.ref t), .unset, .unset, .unset]) rfl ?_
    refine Go.newO D (pc' := 281) (ce' := 22) (sl' := 286) (hw _ (List.mem_of_getElem? (i := 10) rfl)) (hw _ (List.mem_of_getElem? (i := 11) rfl)) (hw _ (List.mem_of_getElem? (i := 12) rfl)) at_278 rfl rfl rfl (by decide) (by decide) ?_
    intro h278 o go E278 X278 D278
    have Po : TB Z h278 o .null .null .null := ⟨X278, D278 (Or.inr (hw _ (List.mem_of_getElem? (i := 159) rfl))) (ty := .object "java/lang/String") (by decide), D278 (Or.inr (hw _ (List.mem_of_getElem? (i := 161) rfl))) (ty := .object "java/lang/String") (by decide), D278 (Or.inr (hw _ (List.mem_of_getElem? (i := 163) rfl))) (ty := .object "java/lang/String") (by decide)⟩
    have z278 : n0 ≤ h278.size := Nat.le_trans z273 E278.1
    have lo := own_ltn X278.lt
    have x278 := E278
    have go0 : n0 ≤ o := by omega
    refine Go.dup D (pc' := 282) at_281 rfl rfl ?_
    refine Go.newO D (pc' := 285) (ce' := 23) (sl' := 290) (hw _ (List.mem_of_getElem? (i := 13) rfl)) (hw _ (List.mem_of_getElem? (i := 14) rfl)) (hw _ (List.mem_of_getElem? (i := 15) rfl)) at_282 rfl rfl rfl (by decide) (by decide) ?_
    intro h282 u1 gu1 E282 X282 D282
    have V282 : Fld Z h282 u1 "java/lang/String" "value" "[B" .null := D282 (Or.inr (hw _ (List.mem_of_getElem? (i := 41) rfl))) (ty := .array .byte) (by decide)
    have C282 : Fld Z h282 u1 "java/lang/String" "coder" "B" (.int 0) := D282 (Or.inr (hw _ (List.mem_of_getElem? (i := 39) rfl))) (ty := .byte) (by decide)
    have Fh282 : Fld Z h282 u1 "java/lang/String" "hash" "I" (.int 0) := D282 (Or.inl (hw _ (List.mem_of_getElem? (i := 191) rfl))) (ty := .int) (by decide)
    have Fz282 : Fld Z h282 u1 "java/lang/String" "hashIsZero" "Z" (.int 0) := D282 (Or.inl (hw _ (List.mem_of_getElem? (i := 193) rfl))) (ty := .boolean) (by decide)
    have z282 : n0 ≤ h282.size := Nat.le_trans z278 E282.1
    have lu1 := own_ltn X282.lt
    refine Go.dup D (pc' := 286) at_285 rfl rfl ?_
    refine Go.aload D (pc' := 288) at_286 rfl rfl rfl ?_
    have hl288 : Lat [x0, x1] := ⟨fun c hc => (hu1 c hc).lat, by simp⟩
    refine Go.callI D (argsL := [(.ref a8)]) (rest := [(.ref u1), (.ref o), (.ref o)]) (pc' := 291) (ce' := 24) (sl' := 354) (con_strN l Z a0 hw h282 n0 z282 none u1 a8 k8 [x0, x1] (B8.ext (x278.tr E282)) hl288 (by simp) cz hcz O2 (by omega) X282 V282 C282 Fh282 Fz282) rfl (hw _ (List.mem_of_getElem? (i := 16) rfl)) (hw _ (List.mem_of_getElem? (i := 17) rfl)) (hw _ (List.mem_of_getElem? (i := 15) rfl)) (hw _ (List.mem_of_getElem? (i := 18) rfl)) (by decide) at_288 rfl pd3 rfl rfl rfl (by decide) (W := 3) rfl (by decide) (by decide) (by decide) (by decide) (by decide) ?_
    intro v288 h288 σ288 q288
    obtain ⟨rfl, rfl, kk288, Su1, Hu1⟩ := q288
    show Go κ none h288 24 354 291 #[.val (.int i0), .val (.int i1), .val (.int i2), .val (.int i3), .val (.int i4), .val (.ref a5), .val (.ref a6), .val (.ref a7), .val (.ref a8), .val (.ref a9), .val (.ref a10), .val (.int m), .val (.ref t), .unset, .unset, .unset] [(.ref u1), (.ref o), (.ref o)]
    have e288 := E282.keepN kk288 (by omega)
    have x288 := x278.tr e288
    have z288 : n0 ≤ h288.size := Nat.le_trans z282 kk288.1
    have ll288 := kk288.1
    have Po := Po.ext e288
    refine Go.newO D (pc' := 294) (ce' := 25) (sl' := 358) (hw _ (List.mem_of_getElem? (i := 13) rfl)) (hw _ (List.mem_of_getElem? (i := 14) rfl)) (hw _ (List.mem_of_getElem? (i := 15) rfl)) at_291 rfl rfl rfl (by decide) (by decide) ?_
    intro h291 u2 gu2 E291 X291 D291
    have V291 : Fld Z h291 u2 "java/lang/String" "value" "[B" .null := D291 (Or.inr (hw _ (List.mem_of_getElem? (i := 41) rfl))) (ty := .array .byte) (by decide)
    have C291 : Fld Z h291 u2 "java/lang/String" "coder" "B" (.int 0) := D291 (Or.inr (hw _ (List.mem_of_getElem? (i := 39) rfl))) (ty := .byte) (by decide)
    have Fh291 : Fld Z h291 u2 "java/lang/String" "hash" "I" (.int 0) := D291 (Or.inl (hw _ (List.mem_of_getElem? (i := 191) rfl))) (ty := .int) (by decide)
    have Fz291 : Fld Z h291 u2 "java/lang/String" "hashIsZero" "Z" (.int 0) := D291 (Or.inl (hw _ (List.mem_of_getElem? (i := 193) rfl))) (ty := .boolean) (by decide)
    have z291 : n0 ≤ h291.size := Nat.le_trans z288 E291.1
    have lu2 := own_ltn X291.lt
    refine Go.dup D (pc' := 295) at_294 rfl rfl ?_
    refine Go.aload D (pc' := 297) at_295 rfl rfl rfl ?_
    have hl297 : Lat [y0, y1] := ⟨fun c hc => (hid2 c hc).lat, by simp⟩
    refine Go.callI D (argsL := [(.ref a9)]) (rest := [(.ref u2), (.ref u1), (.ref o), (.ref o)]) (pc' := 300) (ce' := 26) (sl' := 422) (con_strN l Z a0 hw h291 n0 z291 none u2 a9 k9 [y0, y1] (B9.ext (x288.tr E291)) hl297 (by simp) cz hcz O2 (by omega) X291 V291 C291 Fh291 Fz291) rfl (hw _ (List.mem_of_getElem? (i := 16) rfl)) (hw _ (List.mem_of_getElem? (i := 17) rfl)) (hw _ (List.mem_of_getElem? (i := 15) rfl)) (hw _ (List.mem_of_getElem? (i := 18) rfl)) (by decide) at_297 rfl pd3 rfl rfl rfl (by decide) (W := 4) rfl (by decide) (by decide) (by decide) (by decide) (by decide) ?_
    intro v297 h297 σ297 q297
    obtain ⟨rfl, rfl, kk297, Su2, Hu2⟩ := q297
    show Go κ none h297 26 422 300 #[.val (.int i0), .val (.int i1), .val (.int i2), .val (.int i3), .val (.int i4), .val (.ref a5), .val (.ref a6), .val (.ref a7), .val (.ref a8), .val (.ref a9), .val (.ref a10), .val (.int m), .val (.ref t), .unset, .unset, .unset] [(.ref u2), (.ref u1), (.ref o), (.ref o)]
    have e297 := E291.keepN kk297 (by omega)
    have x297 := x288.tr e297
    have z297 : n0 ≤ h297.size := Nat.le_trans z291 kk297.1
    have ll297 := kk297.1
    have Po := Po.ext e297
    have Su1 := Su1.ext e297
    have Hu1 := Hu1.ext e297
    refine Go.newO D (pc' := 303) (ce' := 27) (sl' := 426) (hw _ (List.mem_of_getElem? (i := 13) rfl)) (hw _ (List.mem_of_getElem? (i := 14) rfl)) (hw _ (List.mem_of_getElem? (i := 15) rfl)) at_300 rfl rfl rfl (by decide) (by decide) ?_
    intro h300 u3 gu3 E300 X300 D300
    have V300 : Fld Z h300 u3 "java/lang/String" "value" "[B" .null := D300 (Or.inr (hw _ (List.mem_of_getElem? (i := 41) rfl))) (ty := .array .byte) (by decide)
    have C300 : Fld Z h300 u3 "java/lang/String" "coder" "B" (.int 0) := D300 (Or.inr (hw _ (List.mem_of_getElem? (i := 39) rfl))) (ty := .byte) (by decide)
    have Fh300 : Fld Z h300 u3 "java/lang/String" "hash" "I" (.int 0) := D300 (Or.inl (hw _ (List.mem_of_getElem? (i := 191) rfl))) (ty := .int) (by decide)
    have Fz300 : Fld Z h300 u3 "java/lang/String" "hashIsZero" "Z" (.int 0) := D300 (Or.inl (hw _ (List.mem_of_getElem? (i := 193) rfl))) (ty := .boolean) (by decide)
    have z300 : n0 ≤ h300.size := Nat.le_trans z297 E300.1
    have lu3 := own_ltn X300.lt
    refine Go.dup D (pc' := 304) at_303 rfl rfl ?_
    refine Go.aload D (pc' := 306) at_304 rfl rfl rfl ?_
    have hl306 : Lat [z0, z1] := ⟨fun c hc => (hu3 c hc).lat, by simp⟩
    refine Go.callI D (argsL := [(.ref a10)]) (rest := [(.ref u3), (.ref u2), (.ref u1), (.ref o), (.ref o)]) (pc' := 309) (ce' := 28) (sl' := 490) (con_strN l Z a0 hw h300 n0 z300 none u3 a10 k10 [z0, z1] (B10.ext (x297.tr E300)) hl306 (by simp) cz hcz O2 (by omega) X300 V300 C300 Fh300 Fz300) rfl (hw _ (List.mem_of_getElem? (i := 16) rfl)) (hw _ (List.mem_of_getElem? (i := 17) rfl)) (hw _ (List.mem_of_getElem? (i := 15) rfl)) (hw _ (List.mem_of_getElem? (i := 18) rfl)) (by decide) at_306 rfl pd3 rfl rfl rfl (by decide) (W := 5) rfl (by decide) (by decide) (by decide) (by decide) (by decide) ?_
    intro v306 h306 σ306 q306
    obtain ⟨rfl, rfl, kk306, Su3, Hu3⟩ := q306
    show Go κ none h306 28 490 309 #[.val (.int i0), .val (.int i1), .val (.int i2), .val (.int i3), .val (.int i4), .val (.ref a5), .val (.ref a6), .val (.ref a7), .val (.ref a8), .val (.ref a9), .val (.ref a10), .val (.int m), .val (.ref t), .unset, .unset, .unset] [(.ref u3), (.ref u2), (.ref u1), (.ref o), (.ref o)]
    have e306 := E300.keepN kk306 (by omega)
    have x306 := x297.tr e306
    have z306 : n0 ≤ h306.size := Nat.le_trans z300 kk306.1
    have ll306 := kk306.1
    have Po := Po.ext e306
    have Su1 := Su1.ext e306
    have Hu1 := Hu1.ext e306
    have Su2 := Su2.ext e306
    have Hu2 := Hu2.ext e306
    have nu1 : u1 ≠ o := own_ne (by omega)
    have nu2 : u2 ≠ o := own_ne (by omega)
    have nu3 : u3 ≠ o := own_ne (by omega)
    refine Go.callI D (argsL := [(.ref u1), (.ref u2), (.ref u3)]) (rest := [(.ref o)]) (pc' := 312) (ce' := 36) (sl' := 554) (con_ctor3 l Z a0 hw h306 n0 z306 o u1 u2 u3 [x0, x1] [y0, y1] [z0, z1] go0 Po Su1 Su2 Su3 (Hu2.2.2 (by simp)) (by simp) (by simp) (by simp) (by simp) hu1 hid2 hu3 cz hcz O2 fm rf O4 u8 U1 U2) rfl (hw _ (List.mem_of_getElem? (i := 42) rfl)) (hw _ (List.mem_of_getElem? (i := 43) rfl)) (hw _ (List.mem_of_getElem? (i := 12) rfl)) (hw _ (List.mem_of_getElem? (i := 44) rfl)) (by decide) at_309 rfl pd9 rfl rfl rfl (by decide) (W := 1) rfl (by decide) (by decide) (by decide) (by decide) (by decide) ?_
    intro v309 h309 σ309 q309
    obtain ⟨rfl, rfl, kt309, Qo⟩ := q309
    show Go κ none h309 36 554 312 #[.val (.int i0), .val (.int i1), .val (.int i2), .val (.int i3), .val (.int i4), .val (.ref a5), .val (.ref a6), .val (.ref a7), .val (.ref a8), .val (.ref a9), .val (.ref a10), .val (.int m), .val (.ref t), .unset, .unset, .unset] [(.ref o)]
    have Su1 := Su1.keep kt309 nu1 Po.1 (hw _ (List.mem_of_getElem? (i := 11) rfl))
    have Hu1 := (SH.hf Hu1).keep kt309 nu1
    have Su2 := Su2.keep kt309 nu2 Po.1 (hw _ (List.mem_of_getElem? (i := 11) rfl))
    have Hu2 := (SH.hf Hu2).keep kt309 nu2
    have Su3 := Su3.keep kt309 nu3 Po.1 (hw _ (List.mem_of_getElem? (i := 11) rfl))
    have Hu3 := (SH.hf Hu3).keep kt309 nu3
    have x309 := x306.keepN kt309 (by omega)
    have z309 : n0 ≤ h309.size := Nat.le_trans z306 kt309.1
    have ll309 := kt309.1
    have Qt := Qt.ext x309
    have Ss1 := Ss1.ext x309
    have Ss2 := Ss2.ext x309
    have Ss3 := Ss3.ext x309
    have Hs1 := Hs1.ext x309
    have Hs2 := Hs2.ext x309
    have Hs3 := Hs3.ext x309
    refine Go.astore D (pc' := 314) at_312 rfl rfl (ls' := #[.val (.int i0), .val (.int i1), .val (.int i2), .val (.int i3), .val (.int i4), .val (.ref a5), .val (.ref a6), .val (.ref a7), .val (.ref a8), .val (.ref a9), .val (.ref a10), .val (.int m), .val (.ref t), .val (.ref o), .unset, .unset]) rfl ?_
    refine Go.aload D (pc' := 316) at_314 rfl rfl rfl ?_
    refine Go.aload D (pc' := 318) at_316 rfl rfl rfl ?_
    refine Go.callV D (argsL := [(.ref o)]) (rest := []) (pc' := 321) (ce' := 36) (sl' := 554) (con_eq3 l Z a0 hw h309 n0 none t o s1 s2 s3 u1 u2 u3 _ _ _ _ _ _ Qt Qo Ss1 Su1 Ss2 Su2 Ss3 Su3 cz hcz O2) (hw _ (List.mem_of_getElem? (i := 164) rfl)) (hw _ (List.mem_of_getElem? (i := 165) rfl)) (hw _ (List.mem_of_getElem? (i := 167) rfl)) (hw _ (List.mem_of_getElem? (i := 166) rfl)) (hw _ (List.mem_of_getElem? (i := 12) rfl)) (hw _ (List.mem_of_getElem? (i := 168) rfl)) (nfS (hw _ (List.mem_of_getElem? (i := 167) rfl))) (by decide) Qt.1 at_318 rfl pd33 rfl rfl rfl (by decide) (W := 0) rfl (by decide) (by decide) (by decide) (by decide) (by decide) ?_
    intro v318 h318 σ318 q318
    obtain ⟨rfl, rfl, r, rfl, hr⟩ := q318
    show Go κ none h309 36 554 321 #[.val (.int i0), .val (.int i1), .val (.int i2), .val (.int i3), .val (.int i4), .val (.ref a5), .val (.ref a6), .val (.ref a7), .val (.ref a8), .val (.ref a9), .val (.ref a10), .val (.int m), .val (.ref t), .val (.ref o), .unset, .unset] [(.int r)]
    rcases hr with ⟨rfl, e⟩ | ⟨rfl, e⟩
    · skip
      refine Go.istore D (pc' := 323) at_321 rfl (ls' := #[.val (.int i0), .val (.int i1), .val (.int i2), .val (.int i3), .val (.int i4), .val (.ref a5), .val (.ref a6), .val (.ref a7), .val (.ref a8), .val (.ref a9), .val (.ref a10), .val (.int m), .val (.ref t), .val (.ref o), .val (.int (1 : Int32)), .unset]) rfl ?_
      refine Go.aload D (pc' := 325) at_323 rfl rfl rfl ?_
      refine Go.callV D (argsL := []) (rest := []) (pc' := 328) (ce' := 36) (sl' := 554) (con_hash3 l Z a0 hw h309 n0 none t s1 s2 s3 [r0, r1] [q0, q1] [t0, t1] Qt (by omega) Ss1 Hs1 (own_ne (by omega)) (by omega) Ss2 Hs2 (own_ne (by omega)) (by omega) Ss3 Hs3 (own_ne (by omega)) (own_ne (by omega)) (own_ne (by omega)) (own_ne (by omega)) cz hcz O2) (hw _ (List.mem_of_getElem? (i := 180) rfl)) (hw _ (List.mem_of_getElem? (i := 181) rfl)) (hw _ (List.mem_of_getElem? (i := 183) rfl)) (hw _ (List.mem_of_getElem? (i := 182) rfl)) (hw _ (List.mem_of_getElem? (i := 12) rfl)) (hw _ (List.mem_of_getElem? (i := 184) rfl)) (nfS (hw _ (List.mem_of_getElem? (i := 183) rfl))) (by decide) Qt.1 at_325 rfl pd36 rfl rfl rfl (by decide) (W := 0) rfl (by decide) (by decide) (by decide) (by decide) (by decide) ?_
      intro v325 h325 σ325 q325
      obtain ⟨rfl, rfl, c325, p325, b325⟩ := q325
      show Go κ none h325 36 554 328 #[.val (.int i0), .val (.int i1), .val (.int i2), .val (.int i3), .val (.int i4), .val (.ref a5), .val (.ref a6), .val (.ref a7), .val (.ref a8), .val (.ref a9), .val (.ref a10), .val (.int m), .val (.ref t), .val (.ref o), .val (.int (1 : Int32)), .unset] [(.int (h3 [r0, r1] [q0, q1] [t0, t1]))]
      refine Go.aload D (pc' := 330) at_328 rfl rfl rfl ?_
      have Tu1 : Str Z h325 u1 _ := ⟨c325 _ _ _ Su1.1, Su1.2⟩
      have Gu1 := p325 _ _ (own_ne (by omega)) (own_ne (by omega)) (own_ne (by omega)) Hu1
      have Tu2 : Str Z h325 u2 _ := ⟨c325 _ _ _ Su2.1, Su2.2⟩
      have Gu2 := p325 _ _ (own_ne (by omega)) (own_ne (by omega)) (own_ne (by omega)) Hu2
      have Tu3 : Str Z h325 u3 _ := ⟨c325 _ _ _ Su3.1, Su3.2⟩
      have Gu3 := p325 _ _ (own_ne (by omega)) (own_ne (by omega)) (own_ne (by omega)) Hu3
      have Ro := b325 _ _ _ _ (own_ne (by omega)) (own_ne (by omega)) (own_ne (by omega)) Qo
      refine Go.callV D (argsL := []) (rest := [(.int (h3 [r0, r1] [q0, q1] [t0, t1]))]) (pc' := 333) (ce' := 36) (sl' := 554) (con_hash3 l Z a0 hw h325 n0 none o u1 u2 u3 [x0, x1] [y0, y1] [z0, z1] Ro (by omega) Tu1 Gu1 (own_ne (by omega)) (by omega) Tu2 Gu2 (own_ne (by omega)) (by omega) Tu3 Gu3 (own_ne (by omega)) (own_ne (by omega)) (own_ne (by omega)) (own_ne (by omega)) cz hcz O2) (hw _ (List.mem_of_getElem? (i := 180) rfl)) (hw _ (List.mem_of_getElem? (i := 181) rfl)) (hw _ (List.mem_of_getElem? (i := 183) rfl)) (hw _ (List.mem_of_getElem? (i := 182) rfl)) (hw _ (List.mem_of_getElem? (i := 12) rfl)) (hw _ (List.mem_of_getElem? (i := 184) rfl)) (nfS (hw _ (List.mem_of_getElem? (i := 183) rfl))) (by decide) Ro.1 at_330 rfl pd36 rfl rfl rfl (by decide) (W := 1) rfl (by decide) (by decide) (by decide) (by decide) (by decide) ?_
      intro v330 h330 σ330 q330
      obtain ⟨rfl, rfl, c330, p330, b330⟩ := q330
      show Go κ none h330 36 554 333 #[.val (.int i0), .val (.int i1), .val (.int i2), .val (.int i3), .val (.int i4), .val (.ref a5), .val (.ref a6), .val (.ref a7), .val (.ref a8), .val (.ref a9), .val (.ref a10), .val (.int m), .val (.ref t), .val (.ref o), .val (.int (1 : Int32)), .unset] [(.int (h3 [x0, x1] [y0, y1] [z0, z1])), (.int (h3 [r0, r1] [q0, q1] [t0, t1]))]
      refine Go.icmp D (pc' := 340) (pc2 := 336) at_333 (by decide) (by decide) rfl ?_ ?_
      · intro (hc333 : ¬ (h3 [r0, r1] [q0, q1] [t0, t1]) = (h3 [x0, x1] [y0, y1] [z0, z1]))
        exact absurd (by rw [e.1, e.2.1, e.2.2]) hc333
      · intro (hc333 : (h3 [r0, r1] [q0, q1] [t0, t1]) = (h3 [x0, x1] [y0, y1] [z0, z1]))
        refine Go.iconst D (pc' := 337) at_336 rfl (v := (1 : Int32)) rfl ?_
        refine Go.goto D (pc' := 341) at_337 (by decide) (by decide) ?_
        refine Go.istore D (pc' := 343) at_341 rfl (ls' := #[.val (.int i0), .val (.int i1), .val (.int i2), .val (.int i3), .val (.int i4), .val (.ref a5), .val (.ref a6), .val (.ref a7), .val (.ref a8), .val (.ref a9), .val (.ref a10), .val (.int m), .val (.ref t), .val (.ref o), .val (.int (1 : Int32)), .val (.int (1 : Int32))]) rfl ?_
        refine Go.iload D (pc' := 345) at_343 rfl rfl ?_
        refine Go.iload D (pc' := 347) at_345 rfl rfl ?_
        refine Go.icmp D (pc' := 354) (pc2 := 350) at_347 (by decide) (by decide) rfl (fun (hc : ¬ (1 : Int32) = (1 : Int32)) => absurd hc (by decide)) (fun _ => ?_)
        refine Go.iconst D (pc' := 351) at_350 rfl (v := (1 : Int32)) rfl ?_
        refine Go.goto D (pc' := 355) at_351 (by decide) (by decide) ?_
        refine Go.zret D rfl rfl at_355 (by decide) (by decide) ?_
        exact rfl
    · skip
      refine Go.istore D (pc' := 323) at_321 rfl (ls' := #[.val (.int i0), .val (.int i1), .val (.int i2), .val (.int i3), .val (.int i4), .val (.ref a5), .val (.ref a6), .val (.ref a7), .val (.ref a8), .val (.ref a9), .val (.ref a10), .val (.int m), .val (.ref t), .val (.ref o), .val (.int (0 : Int32)), .unset]) rfl ?_
      refine Go.aload D (pc' := 325) at_323 rfl rfl rfl ?_
      refine Go.callV D (argsL := []) (rest := []) (pc' := 328) (ce' := 36) (sl' := 554) (con_hash3 l Z a0 hw h309 n0 none t s1 s2 s3 [r0, r1] [q0, q1] [t0, t1] Qt (by omega) Ss1 Hs1 (own_ne (by omega)) (by omega) Ss2 Hs2 (own_ne (by omega)) (by omega) Ss3 Hs3 (own_ne (by omega)) (own_ne (by omega)) (own_ne (by omega)) (own_ne (by omega)) cz hcz O2) (hw _ (List.mem_of_getElem? (i := 180) rfl)) (hw _ (List.mem_of_getElem? (i := 181) rfl)) (hw _ (List.mem_of_getElem? (i := 183) rfl)) (hw _ (List.mem_of_getElem? (i := 182) rfl)) (hw _ (List.mem_of_getElem? (i := 12) rfl)) (hw _ (List.mem_of_getElem? (i := 184) rfl)) (nfS (hw _ (List.mem_of_getElem? (i := 183) rfl))) (by decide) Qt.1 at_325 rfl pd36 rfl rfl rfl (by decide) (W := 0) rfl (by decide) (by decide) (by decide) (by decide) (by decide) ?_
      intro v325 h325 σ325 q325
      obtain ⟨rfl, rfl, c325, p325, b325⟩ := q325
      show Go κ none h325 36 554 328 #[.val (.int i0), .val (.int i1), .val (.int i2), .val (.int i3), .val (.int i4), .val (.ref a5), .val (.ref a6), .val (.ref a7), .val (.ref a8), .val (.ref a9), .val (.ref a10), .val (.int m), .val (.ref t), .val (.ref o), .val (.int (0 : Int32)), .unset] [(.int (h3 [r0, r1] [q0, q1] [t0, t1]))]
      refine Go.aload D (pc' := 330) at_328 rfl rfl rfl ?_
      have Tu1 : Str Z h325 u1 _ := ⟨c325 _ _ _ Su1.1, Su1.2⟩
      have Gu1 := p325 _ _ (own_ne (by omega)) (own_ne (by omega)) (own_ne (by omega)) Hu1
      have Tu2 : Str Z h325 u2 _ := ⟨c325 _ _ _ Su2.1, Su2.2⟩
      have Gu2 := p325 _ _ (own_ne (by omega)) (own_ne (by omega)) (own_ne (by omega)) Hu2
      have Tu3 : Str Z h325 u3 _ := ⟨c325 _ _ _ Su3.1, Su3.2⟩
      have Gu3 := p325 _ _ (own_ne (by omega)) (own_ne (by omega)) (own_ne (by omega)) Hu3
      have Ro := b325 _ _ _ _ (own_ne (by omega)) (own_ne (by omega)) (own_ne (by omega)) Qo
      refine Go.callV D (argsL := []) (rest := [(.int (h3 [r0, r1] [q0, q1] [t0, t1]))]) (pc' := 333) (ce' := 36) (sl' := 554) (con_hash3 l Z a0 hw h325 n0 none o u1 u2 u3 [x0, x1] [y0, y1] [z0, z1] Ro (by omega) Tu1 Gu1 (own_ne (by omega)) (by omega) Tu2 Gu2 (own_ne (by omega)) (by omega) Tu3 Gu3 (own_ne (by omega)) (own_ne (by omega)) (own_ne (by omega)) (own_ne (by omega)) cz hcz O2) (hw _ (List.mem_of_getElem? (i := 180) rfl)) (hw _ (List.mem_of_getElem? (i := 181) rfl)) (hw _ (List.mem_of_getElem? (i := 183) rfl)) (hw _ (List.mem_of_getElem? (i := 182) rfl)) (hw _ (List.mem_of_getElem? (i := 12) rfl)) (hw _ (List.mem_of_getElem? (i := 184) rfl)) (nfS (hw _ (List.mem_of_getElem? (i := 183) rfl))) (by decide) Ro.1 at_330 rfl pd36 rfl rfl rfl (by decide) (W := 1) rfl (by decide) (by decide) (by decide) (by decide) (by decide) ?_
      intro v330 h330 σ330 q330
      obtain ⟨rfl, rfl, c330, p330, b330⟩ := q330
      show Go κ none h330 36 554 333 #[.val (.int i0), .val (.int i1), .val (.int i2), .val (.int i3), .val (.int i4), .val (.ref a5), .val (.ref a6), .val (.ref a7), .val (.ref a8), .val (.ref a9), .val (.ref a10), .val (.int m), .val (.ref t), .val (.ref o), .val (.int (0 : Int32)), .unset] [(.int (h3 [x0, x1] [y0, y1] [z0, z1])), (.int (h3 [r0, r1] [q0, q1] [t0, t1]))]
      refine Go.icmp D (pc' := 340) (pc2 := 336) at_333 (by decide) (by decide) rfl ?_ ?_
      · intro (hc333 : ¬ (h3 [r0, r1] [q0, q1] [t0, t1]) = (h3 [x0, x1] [y0, y1] [z0, z1]))
        refine Go.iconst D (pc' := 341) at_340 rfl (v := (0 : Int32)) rfl ?_
        refine Go.istore D (pc' := 343) at_341 rfl (ls' := #[.val (.int i0), .val (.int i1), .val (.int i2), .val (.int i3), .val (.int i4), .val (.ref a5), .val (.ref a6), .val (.ref a7), .val (.ref a8), .val (.ref a9), .val (.ref a10), .val (.int m), .val (.ref t), .val (.ref o), .val (.int (0 : Int32)), .val (.int (0 : Int32))]) rfl ?_
        refine Go.iload D (pc' := 345) at_343 rfl rfl ?_
        refine Go.iload D (pc' := 347) at_345 rfl rfl ?_
        refine Go.icmp D (pc' := 354) (pc2 := 350) at_347 (by decide) (by decide) rfl (fun (hc : ¬ (0 : Int32) = (0 : Int32)) => absurd hc (by decide)) (fun _ => ?_)
        refine Go.iconst D (pc' := 351) at_350 rfl (v := (1 : Int32)) rfl ?_
        refine Go.goto D (pc' := 355) at_351 (by decide) (by decide) ?_
        refine Go.zret D rfl rfl at_355 (by decide) (by decide) ?_
        exact rfl
      · intro (hc333 : (h3 [r0, r1] [q0, q1] [t0, t1]) = (h3 [x0, x1] [y0, y1] [z0, z1]))
        exact absurd (near_hash hN hc333) e
  refine Go.iload D (pc' := 140) at_138 rfl rfl ?_
  refine Go.ifc D (pc' := 155) (pc2 := 143) at_140 (by decide) (by decide) rfl ?_ ?_
  · intro (hc140 : ¬ m = 0)
    refine Go.iload D (pc' := 157) at_155 rfl rfl ?_
    refine Go.iconst D (pc' := 158) at_157 rfl (v := (1 : Int32)) rfl ?_
    refine Go.icmp D (pc' := 173) (pc2 := 161) at_158 (by decide) (by decide) rfl ?_ ?_
    · intro (hc158 : ¬ m = (1 : Int32))
      refine Go.iload D (pc' := 175) at_173 rfl rfl ?_
      refine Go.iconst D (pc' := 176) at_175 rfl (v := (2 : Int32)) rfl ?_
      refine Go.icmp D (pc' := 191) (pc2 := 179) at_176 (by decide) (by decide) rfl ?_ ?_
      · intro (hc176 : ¬ m = (2 : Int32))
        refine Go.iload D (pc' := 193) at_191 rfl rfl ?_
        refine Go.iconst D (pc' := 194) at_193 rfl (v := (3 : Int32)) rfl ?_
        refine Go.icmp D (pc' := 209) (pc2 := 197) at_194 (by decide) (by decide) rfl ?_ ?_
        · intro (hc194 : ¬ m = (3 : Int32))
          refine Go.iload D (pc' := 211) at_209 rfl rfl ?_
          refine Go.iconst D (pc' := 212) at_211 rfl (v := (4 : Int32)) rfl ?_
          refine Go.icmp D (pc' := 227) (pc2 := 215) at_212 (by decide) (by decide) rfl ?_ ?_
          · intro (hc212 : ¬ m = (4 : Int32))
            refine Go.iload D (pc' := 229) at_227 rfl rfl ?_
            refine Go.iconst D (pc' := 230) at_229 rfl (v := (5 : Int32)) rfl ?_
            refine Go.icmp D (pc' := 242) (pc2 := 233) at_230 (by decide) (by decide) rfl ?_ ?_
            · intro (hc230 : ¬ m = (5 : Int32))
              exact J242 h126 r0 r1 q0 q1 t0 t1 z126 B5 B6 B7 B8 B9 B10 hr0 hr1 hq0 hq1 ht0 ht1 (Or.inl ⟨rfl, rfl, rfl, rfl, rfl⟩)
            · intro (hc230 : m = (5 : Int32))
              refine Go.aload D (pc' := 235) at_233 rfl rfl rfl ?_
              refine Go.iconst D (pc' := 236) at_235 rfl (v := (1 : Int32)) rfl ?_
              refine Go.iload D (pc' := 238) at_236 rfl rfl ?_
              refine Go.callS D (argsL := [(.int i4)]) (rest := [(.int (1 : Int32)), (.ref a10)]) (pc' := 241) (ce' := 6) (sl' := 12) (con_tok l Z a0 hw h126 n0 none i4) (hw _ (List.mem_of_getElem? (i := 2) rfl)) (hw _ (List.mem_of_getElem? (i := 3) rfl)) (hw _ (List.mem_of_getElem? (i := 4) rfl)) (hw _ (List.mem_of_getElem? (i := 5) rfl)) (by decide) at_238 rfl pd1 rfl rfl rfl (by decide) (W := 2) rfl (by decide) (by decide) (by decide) (by decide) (by decide) ?_
              intro v238 h238 σ238 q238
              obtain ⟨rfl, rfl, w0, rfl, hw0⟩ := q238
              show Go κ none h126 6 12 241 #[.val (.int i0), .val (.int i1), .val (.int i2), .val (.int i3), .val (.int i4), .val (.ref a5), .val (.ref a6), .val (.ref a7), .val (.ref a8), .val (.ref a9), .val (.ref a10), .val (.int m), .unset, .unset, .unset, .unset] [(.int w0), (.int (1 : Int32)), (.ref a10)]
              refine Go.castore D (pc' := 242) (i := 1) at_241 rfl B10 (by decide) (by decide) rfl (by simp) (by omega) (char_nar hw0.lat) ?_
              intro h241 K241 A241
              exact J242 h241 r0 r1 q0 q1 t0 w0 (Nat.le_trans z126 K241.1) (B5.keep K241 (nin1 (own_ne (by omega)))) (B6.keep K241 (nin1 (own_ne (by omega)))) (B7.keep K241 (nin1 (own_ne (by omega)))) (B8.keep K241 (nin1 (own_ne (by omega)))) (B9.keep K241 (nin1 (own_ne (by omega)))) A241 hr0 hr1 hq0 hq1 ht0 hw0 (Or.inr (Or.inr (Or.inr (Or.inr (Or.inr (⟨rfl, rfl, rfl, rfl, rfl⟩))))))
          · intro (hc212 : m = (4 : Int32))
            refine Go.aload D (pc' := 217) at_215 rfl rfl rfl ?_
            refine Go.iconst D (pc' := 218) at_217 rfl (v := (0 : Int32)) rfl ?_
            refine Go.iload D (pc' := 220) at_218 rfl rfl ?_
            refine Go.callS D (argsL := [(.int i4)]) (rest := [(.int (0 : Int32)), (.ref a10)]) (pc' := 223) (ce' := 6) (sl' := 12) (con_tok l Z a0 hw h126 n0 none i4) (hw _ (List.mem_of_getElem? (i := 2) rfl)) (hw _ (List.mem_of_getElem? (i := 3) rfl)) (hw _ (List.mem_of_getElem? (i := 4) rfl)) (hw _ (List.mem_of_getElem? (i := 5) rfl)) (by decide) at_220 rfl pd1 rfl rfl rfl (by decide) (W := 2) rfl (by decide) (by decide) (by decide) (by decide) (by decide) ?_
            intro v220 h220 σ220 q220
            obtain ⟨rfl, rfl, w0, rfl, hw0⟩ := q220
            show Go κ none h126 6 12 223 #[.val (.int i0), .val (.int i1), .val (.int i2), .val (.int i3), .val (.int i4), .val (.ref a5), .val (.ref a6), .val (.ref a7), .val (.ref a8), .val (.ref a9), .val (.ref a10), .val (.int m), .unset, .unset, .unset, .unset] [(.int w0), (.int (0 : Int32)), (.ref a10)]
            refine Go.castore D (pc' := 224) (i := 0) at_223 rfl B10 (by decide) (by decide) rfl (by simp) (by omega) (char_nar hw0.lat) ?_
            intro h223 K223 A223
            refine Go.goto D (pc' := 242) at_224 (by decide) (by decide) ?_
            exact J242 h223 r0 r1 q0 q1 w0 t1 (Nat.le_trans z126 K223.1) (B5.keep K223 (nin1 (own_ne (by omega)))) (B6.keep K223 (nin1 (own_ne (by omega)))) (B7.keep K223 (nin1 (own_ne (by omega)))) (B8.keep K223 (nin1 (own_ne (by omega)))) (B9.keep K223 (nin1 (own_ne (by omega)))) A223 hr0 hr1 hq0 hq1 hw0 ht1 (Or.inr (Or.inr (Or.inr (Or.inr (Or.inl ⟨rfl, rfl, rfl, rfl, rfl⟩)))))
        · intro (hc194 : m = (3 : Int32))
          refine Go.aload D (pc' := 199) at_197 rfl rfl rfl ?_
          refine Go.iconst D (pc' := 200) at_199 rfl (v := (1 : Int32)) rfl ?_
          refine Go.iload D (pc' := 202) at_200 rfl rfl ?_
          refine Go.callS D (argsL := [(.int i4)]) (rest := [(.int (1 : Int32)), (.ref a9)]) (pc' := 205) (ce' := 6) (sl' := 12) (con_idc l Z a0 hw h126 n0 none i4) (hw _ (List.mem_of_getElem? (i := 7) rfl)) (hw _ (List.mem_of_getElem? (i := 8) rfl)) (hw _ (List.mem_of_getElem? (i := 4) rfl)) (hw _ (List.mem_of_getElem? (i := 9) rfl)) (by decide) at_202 rfl pd2 rfl rfl rfl (by decide) (W := 2) rfl (by decide) (by decide) (by decide) (by decide) (by decide) ?_
          intro v202 h202 σ202 q202
          obtain ⟨rfl, rfl, w0, rfl, hw0⟩ := q202
          show Go κ none h126 6 12 205 #[.val (.int i0), .val (.int i1), .val (.int i2), .val (.int i3), .val (.int i4), .val (.ref a5), .val (.ref a6), .val (.ref a7), .val (.ref a8), .val (.ref a9), .val (.ref a10), .val (.int m), .unset, .unset, .unset, .unset] [(.int w0), (.int (1 : Int32)), (.ref a9)]
          refine Go.castore D (pc' := 206) (i := 1) at_205 rfl B9 (by decide) (by decide) rfl (by simp) (by omega) (char_nar hw0.lat) ?_
          intro h205 K205 A205
          refine Go.goto D (pc' := 242) at_206 (by decide) (by decide) ?_
          exact J242 h205 r0 r1 q0 w0 t0 t1 (Nat.le_trans z126 K205.1) (B5.keep K205 (nin1 (own_ne (by omega)))) (B6.keep K205 (nin1 (own_ne (by omega)))) (B7.keep K205 (nin1 (own_ne (by omega)))) (B8.keep K205 (nin1 (own_ne (by omega)))) A205 (B10.keep K205 (nin1 (own_ne (by omega)))) hr0 hr1 hq0 hw0 ht0 ht1 (Or.inr (Or.inr (Or.inr (Or.inl ⟨rfl, rfl, rfl, rfl, rfl⟩))))
      · intro (hc176 : m = (2 : Int32))
        refine Go.aload D (pc' := 181) at_179 rfl rfl rfl ?_
        refine Go.iconst D (pc' := 182) at_181 rfl (v := (0 : Int32)) rfl ?_
        refine Go.iload D (pc' := 184) at_182 rfl rfl ?_
        refine Go.callS D (argsL := [(.int i4)]) (rest := [(.int (0 : Int32)), (.ref a9)]) (pc' := 187) (ce' := 6) (sl' := 12) (con_idc l Z a0 hw h126 n0 none i4) (hw _ (List.mem_of_getElem? (i := 7) rfl)) (hw _ (List.mem_of_getElem? (i := 8) rfl)) (hw _ (List.mem_of_getElem? (i := 4) rfl)) (hw _ (List.mem_of_getElem? (i := 9) rfl)) (by decide) at_184 rfl pd2 rfl rfl rfl (by decide) (W := 2) rfl (by decide) (by decide) (by decide) (by decide) (by decide) ?_
        intro v184 h184 σ184 q184
        obtain ⟨rfl, rfl, w0, rfl, hw0⟩ := q184
        show Go κ none h126 6 12 187 #[.val (.int i0), .val (.int i1), .val (.int i2), .val (.int i3), .val (.int i4), .val (.ref a5), .val (.ref a6), .val (.ref a7), .val (.ref a8), .val (.ref a9), .val (.ref a10), .val (.int m), .unset, .unset, .unset, .unset] [(.int w0), (.int (0 : Int32)), (.ref a9)]
        refine Go.castore D (pc' := 188) (i := 0) at_187 rfl B9 (by decide) (by decide) rfl (by simp) (by omega) (char_nar hw0.lat) ?_
        intro h187 K187 A187
        refine Go.goto D (pc' := 242) at_188 (by decide) (by decide) ?_
        exact J242 h187 r0 r1 w0 q1 t0 t1 (Nat.le_trans z126 K187.1) (B5.keep K187 (nin1 (own_ne (by omega)))) (B6.keep K187 (nin1 (own_ne (by omega)))) (B7.keep K187 (nin1 (own_ne (by omega)))) (B8.keep K187 (nin1 (own_ne (by omega)))) A187 (B10.keep K187 (nin1 (own_ne (by omega)))) hr0 hr1 hw0 hq1 ht0 ht1 (Or.inr (Or.inr (Or.inl ⟨rfl, rfl, rfl, rfl, rfl⟩)))
    · intro (hc158 : m = (1 : Int32))
      refine Go.aload D (pc' := 163) at_161 rfl rfl rfl ?_
      refine Go.iconst D (pc' := 164) at_163 rfl (v := (1 : Int32)) rfl ?_
      refine Go.iload D (pc' := 166) at_164 rfl rfl ?_
      refine Go.callS D (argsL := [(.int i4)]) (rest := [(.int (1 : Int32)), (.ref a8)]) (pc' := 169) (ce' := 6) (sl' := 12) (con_tok l Z a0 hw h126 n0 none i4) (hw _ (List.mem_of_getElem? (i := 2) rfl)) (hw _ (List.mem_of_getElem? (i := 3) rfl)) (hw _ (List.mem_of_getElem? (i := 4) rfl)) (hw _ (List.mem_of_getElem? (i := 5) rfl)) (by decide) at_166 rfl pd1 rfl rfl rfl (by decide) (W := 2) rfl (by decide) (by decide) (by decide) (by decide) (by decide) ?_
      intro v166 h166 σ166 q166
      obtain ⟨rfl, rfl, w0, rfl, hw0⟩ := q166
      show Go κ none h126 6 12 169 #[.val (.int i0), .val (.int i1), .val (.int i2), .val (.int i3), .val (.int i4), .val (.ref a5), .val (.ref a6), .val (.ref a7), .val (.ref a8), .val (.ref a9), .val (.ref a10), .val (.int m), .unset, .unset, .unset, .unset] [(.int w0), (.int (1 : Int32)), (.ref a8)]
      refine Go.castore D (pc' := 170) (i := 1) at_169 rfl B8 (by decide) (by decide) rfl (by simp) (by omega) (char_nar hw0.lat) ?_
      intro h169 K169 A169
      refine Go.goto D (pc' := 242) at_170 (by decide) (by decide) ?_
      exact J242 h169 r0 w0 q0 q1 t0 t1 (Nat.le_trans z126 K169.1) (B5.keep K169 (nin1 (own_ne (by omega)))) (B6.keep K169 (nin1 (own_ne (by omega)))) (B7.keep K169 (nin1 (own_ne (by omega)))) A169 (B9.keep K169 (nin1 (own_ne (by omega)))) (B10.keep K169 (nin1 (own_ne (by omega)))) hr0 hw0 hq0 hq1 ht0 ht1 (Or.inr (Or.inl ⟨rfl, rfl, rfl, rfl, rfl⟩))
  · intro (hc140 : m = 0)
    refine Go.aload D (pc' := 145) at_143 rfl rfl rfl ?_
    refine Go.iconst D (pc' := 146) at_145 rfl (v := (0 : Int32)) rfl ?_
    refine Go.iload D (pc' := 148) at_146 rfl rfl ?_
    refine Go.callS D (argsL := [(.int i4)]) (rest := [(.int (0 : Int32)), (.ref a8)]) (pc' := 151) (ce' := 6) (sl' := 12) (con_tok l Z a0 hw h126 n0 none i4) (hw _ (List.mem_of_getElem? (i := 2) rfl)) (hw _ (List.mem_of_getElem? (i := 3) rfl)) (hw _ (List.mem_of_getElem? (i := 4) rfl)) (hw _ (List.mem_of_getElem? (i := 5) rfl)) (by decide) at_148 rfl pd1 rfl rfl rfl (by decide) (W := 2) rfl (by decide) (by decide) (by decide) (by decide) (by decide) ?_
    intro v148 h148 σ148 q148
    obtain ⟨rfl, rfl, w0, rfl, hw0⟩ := q148
    show Go κ none h126 6 12 151 #[.val (.int i0), .val (.int i1), .val (.int i2), .val (.int i3), .val (.int i4), .val (.ref a5), .val (.ref a6), .val (.ref a7), .val (.ref a8), .val (.ref a9), .val (.ref a10), .val (.int m), .unset, .unset, .unset, .unset] [(.int w0), (.int (0 : Int32)), (.ref a8)]
    refine Go.castore D (pc' := 152) (i := 0) at_151 rfl B8 (by decide) (by decide) rfl (by simp) (by omega) (char_nar hw0.lat) ?_
    intro h151 K151 A151
    refine Go.goto D (pc' := 242) at_152 (by decide) (by decide) ?_
    exact J242 h151 w0 r1 q0 q1 t0 t1 (Nat.le_trans z126 K151.1) (B5.keep K151 (nin1 (own_ne (by omega)))) (B6.keep K151 (nin1 (own_ne (by omega)))) (B7.keep K151 (nin1 (own_ne (by omega)))) A151 (B9.keep K151 (nin1 (own_ne (by omega)))) (B10.keep K151 (nin1 (own_ne (by omega)))) hw0 hr1 hq0 hq1 ht0 ht1 (Or.inl ⟨rfl, rfl, rfl, rfl, rfl⟩)
set_option maxRecDepth 65536 in
set_option maxHeartbeats 40000000 in
theorem comes_1 {Post : Tables → Env → Array Value → State → Outcome → State → Prop} (hpost : ∀ tb e args s v u, (limb_1_1.after args s (.returned v) u = true ∧ limb_1_2.after args s (.returned v) u = true ∧ True) → Jvm.D.FramedW s (.returned v) u (Jvm.fieldLocs frame_1_writes args s ++ Jvm.arrayLocs frame_1_arrays args s ++ Jvm.staticLocs frame_1_statics s) 64 3328 → Post tb e args s (.returned v) u) :
    ArmFor flags0 classFile x code maxLocals ret World_1 tables_1 room_1 Calls_1 rest_1 Pre_1 Post := by
  intro l hfl _ _ p e ha hc hk s m args below hf hA hF happ hP
  obtain ⟨hcalls, hrest, hpre⟩ := hP
  obtain ⟨-, -, -, hnamed, -, -, -, hat⟩ := (Spec.applies_iff hf).mp happ
  obtain ⟨hg, hn⟩ := and_e (Cond.before_iff.mp (show (Jvm.Cond.and given_1 narrow_1).before args s = true from hpre))
  obtain ⟨h1, k0⟩ := and_e hg
  obtain ⟨j0, k1⟩ := and_e k0
  obtain ⟨j1, k2⟩ := and_e k1
  obtain ⟨j2, k3⟩ := and_e k2
  obtain ⟨j3, k4⟩ := and_e k3
  obtain ⟨w0, w1, w2, w3, w4, rfl⟩ : ∃ w0 w1 w2 w3 w4 : Value, args = #[w0, w1, w2, w3, w4] := by
    have hs : args.size = 5 := by simpa [Cond.value, given_1] using h1
    obtain ⟨L⟩ := args
    match L, hs with
    | [w0, w1, w2, w3, w4], _ => exact ⟨w0, w1, w2, w3, w4, rfl⟩
  have hw := fun d (hd : d ∈ tables_1) => atoms_spec (ws := Jvm.Cond.code x code maxLocals ret :: tables_1) hat d (List.mem_cons_of_mem _ hd)
  obtain ⟨i0, e0⟩ := is_v j0
  obtain rfl : w0 = (.int i0) := Option.some.inj e0
  obtain ⟨i1, e1⟩ := is_v j1
  obtain rfl : w1 = (.int i1) := Option.some.inj e1
  obtain ⟨i2, e2⟩ := is_v j2
  obtain rfl : w2 = (.int i2) := Option.some.inj e2
  obtain ⟨i3, e3⟩ := is_v j3
  obtain rfl : w3 = (.int i3) := Option.some.inj e3
  obtain ⟨i4, e4⟩ := is_v k4
  obtain rfl : w4 = (.int i4) := Option.some.inj e4
  obtain ⟨hsets, hown0⟩ := atoms_of _ (rest_1_c_eq ▸ (show rest_1_c.before _ s = true from hrest))
  have n3 := not_v (Cond.before_iff.mp (hsets _ (List.mem_of_getElem? (i := 2) rfl)))
  obtain ⟨i77, e77⟩ := is_v (Cond.before_iff.mp (hsets _ (List.mem_of_getElem? (i := 1) rfl)))
  have S8 : Sta s s.heap "java/lang/String" "COMPACT_STRINGS" "Z" (.int i77) := Sta.start e77 (Or.inl (hsets _ (List.mem_of_getElem? (i := 0) rfl)))
  have c13 : ¬ (i77 = (0 : Int32)) := gotF (Cond.eq_ints e77 (Term.int_eval (0))) n3
  have hcw : Jvm.Lit.compactW.before _ s = true := hsets _ (List.mem_of_getElem? (i := 2) rfl)

  obtain ⟨v9, e10, r11⟩ := isR_v (Cond.before_iff.mp (hsets _ (List.mem_of_getElem? (i := 8) rfl)))
  have S12 : Sta s s.heap "jdk/internal/util/Preconditions" "SIOOBE_FORMATTER" "Ljava/util/function/BiFunction;" v9 := Sta.start e10 (Or.inl (hsets _ (List.mem_of_getElem? (i := 7) rfl)))
  obtain ⟨u8, eu⟩ := exa_v (Cond.before_iff.mp (hsets _ (List.mem_of_getElem? (i := 14) rfl)))
  obtain ⟨y9, ey, ez⟩ := Cond.eq_one (hsets _ (List.mem_of_getElem? (i := 13) rfl))
  obtain rfl : y9 = .ref u8 := Option.some.inj (ey.symm.trans eu)
  have U1 := Sta.start eu (Or.inl (hsets _ (List.mem_of_getElem? (i := 10) rfl)))
  have U2 := Sta.start ez (Or.inl (hsets _ (List.mem_of_getElem? (i := 12) rfl)))
  obtain ⟨n, o, g1, g2, g3, _, L, τ, rfl, ⟨N, -, -, rfl⟩, hq⟩ := con_law l s _ hw s.heap s.heap.size (Nat.le_refl _) i77 c13 S8 v9 r11 S12 u8 U1 U2 i0 i1 i2 i3 i4 p e ha hc hk s m _ below hf ((Spec.applies_iff_loose hf).mp happ).1 ⟨rfl, State.Warmed39.refl s, rfl, trivial, Old.start s⟩ trivial
  refine ⟨n, _, g1, g2, g3, hpost _ _ _ _ _ _ ⟨Cond.after_iff.mpr rfl, Cond.after_iff.mpr (eq_i res_at (Term.int_eval (1)) rfl), trivial⟩ ⟨hq.1, hq.2.1, hq.2.2.1, (hq.2.2.2.sift fun y hy => Or.inr (N y hy)).mono (by decide) (by decide)⟩⟩
theorem main_1_1 : Claimed_1_1 := comes_1 fun _ _ _ _ _ _ h hF => ⟨h.1, hF⟩
theorem main_1_2 : Claimed_1_2 := comes_1 fun _ _ _ _ _ _ h hF => ⟨h.2.1, hF⟩

end Jvm.Pilot.@@N@@
namespace Jvm.Pilot.@@N@@
open Jvm Jvm.ClassFile Sem Op Lib Jvm.Free Jvm.Stand Jvm.Pilot.@@N@@.Jvm.D
/-! MADE BY PROGRAM (witnessworld.py) out of the Statement's table words and the real class files: 32 classes; the members and pool entries that the words name. The judged class is class 1, her method 3. -/
namespace start1
open Jvm.ClassFile
def u (s : String) : CpInfo := .utf8 (stringToUtf16 s)
/-- a pool by its gaps: so many unusable entries, then the entry; so many at the end -/
def gap : Nat → List CpInfo → List CpInfo
  | 0, r => r
  | n + 1, r => .unusable :: gap n r
def poolList (es : List (Nat × CpInfo)) (last : Nat) : List CpInfo := es.foldr (fun e r => gap e.1 (e.2 :: r)) (gap last [])
def pool (es : List (Nat × CpInfo)) (last : Nat) : Array CpInfo := ⟨poolList es last⟩
def fileOf (pool : Array CpInfo) (this : Nat) (attrs : Array Attribute := #[]) (ms : Array MethodInfo := #[]) (fl : Nat := 33) (sup : Nat := 0) (ifs : Array Nat := #[]) (fds : Array FieldInfo := #[]) : ClassFile where
  minorVersion := 0
  majorVersion := 65
  constantPool := pool
  accessFlags := fl
  thisClass := this
  superClass := sup
  interfaces := ifs
  fields := fds
  methods := ms
  attributes := attrs
def plain (name : String) (sup : Option ClassId) : Class where
  name := name
  kind := .ordinary
  loader := none
  accessFlags := 33
  super := sup
  interfaces := #[]
  cf := none
  fields := #[]
  methods := #[]
  instanceTypes := #[]
  staticTypes := #[]
  resolved := #[]
  callSites := []
  init := .initialized
  statics := none
  mirror := none

def pool0 : Array CpInfo := pool [(5, u "<init>"), (0, u "()V"), (1, .class_ 10), (1, u "java/lang/Object"), (85, u "clone"), (0, u "()Ljava/lang/Object;")] 26

def k0c0 : Code := { maxStack := 0, maxLocals := 1, code := object_method_1_code, exceptionTable := #[], attributes := #[] }
def k0m0 : Method := { name := "<init>", desc := "()V", sig := { parameters := [], returnType := none }, accessFlags := 1, code := some k0c0 }
def k0m1 : Method := { name := "clone", desc := "()Ljava/lang/Object;", sig := { parameters := [], returnType := some (.object "java/lang/Object") }, accessFlags := 260, code := none }
/-- java/lang/Object -/
def k0 : Class := { plain "java/lang/Object" none with
  accessFlags := 33
  interfaces := #[]
  cf := some (fileOf pool0 8 #[] #[{ accessFlags := 1, nameIndex := 5, descriptorIndex := 6, attributes := #[] }, { accessFlags := 260, nameIndex := 96, descriptorIndex := 97, attributes := #[] }] 33 0 #[] #[])
  fields := #[]
  methods := #[k0m0, k0m1]
  instanceTypes := #[]
  staticTypes := #[]
  resolved := Array.replicate 124 none
  statics := none }

def pool1 : Array CpInfo := pool [(2, .class_ 4), (1, u "java/lang/Object"), (0, u "<init>"), (0, u "()V"), (0, .integer 2147483647), (0, .integer 65535), (0, .methodref 10 11), (0, .class_ 12), (0, .nameAndType 13 14), (0, u "com/example/ticks_into_totals/ticksintototals/CounterNameHashCodePinLaw"), (0, u "tok"), (0, u "(I)C"), (0, .methodref 10 16), (0, .nameAndType 17 14), (0, u "idc"), (0, .class_ 19), (0, u "com/example/ticks_into_totals/ticksintototals/CounterName"), (0, .class_ 21), (0, u "java/lang/String"), (0, .methodref 20 23), (0, .nameAndType 5 24), (0, u "([C)V"), (0, .methodref 18 26), (0, .nameAndType 5 27), (0, u "(Ljava/lang/String;Ljava/lang/String;Ljava/lang/String;)V"), (0, .methodref 18 29), (0, .nameAndType 30 31), (0, u "equals"), (0, u "(Ljava/lang/Object;)Z"), (0, .methodref 18 33), (0, .nameAndType 34 35), (0, u "hashCode"), (0, u "()I"), (3, u "law"), (0, u "(IIIII)Z")] 4

def k1m0 : Method := { name := "<init>", desc := "()V", sig := { parameters := [], returnType := none }, accessFlags := 1, code := none }
def k1c1 : Code := { maxStack := 3, maxLocals := 2, code := method_2_code, exceptionTable := #[], attributes := #[] }
def k1m1 : Method := { name := "tok", desc := "(I)C", sig := { parameters := [.int], returnType := some .char }, accessFlags := 10, code := some k1c1 }
def k1c2 : Code := { maxStack := 2, maxLocals := 2, code := method_3_code, exceptionTable := #[], attributes := #[] }
def k1m2 : Method := { name := "idc", desc := "(I)C", sig := { parameters := [.int], returnType := some .char }, accessFlags := 10, code := some k1c2 }
def k1c3 : Code := { maxStack := 7, maxLocals := 16, code := code, exceptionTable := #[], attributes := #[] }
def k1m3 : Method := { name := "law", desc := "(IIIII)Z", sig := { parameters := [.int, .int, .int, .int, .int], returnType := some .boolean }, accessFlags := 9, code := some k1c3 }
/-- com/example/ticks_into_totals/ticksintototals/CounterNameHashCodePinLaw -/
def k1 : Class := { plain "com/example/ticks_into_totals/ticksintototals/CounterNameHashCodePinLaw" (some 0) with
  accessFlags := 49
  interfaces := #[]
  cf := some (fileOf pool1 10 #[] #[{ accessFlags := 1, nameIndex := 5, descriptorIndex := 6, attributes := #[] }, { accessFlags := 10, nameIndex := 13, descriptorIndex := 14, attributes := #[] }, { accessFlags := 10, nameIndex := 17, descriptorIndex := 14, attributes := #[] }, { accessFlags := 9, nameIndex := 39, descriptorIndex := 40, attributes := #[] }] 49 2 #[] #[])
  fields := #[]
  methods := #[k1m0, k1m1, k1m2, k1m3]
  instanceTypes := #[]
  staticTypes := #[]
  resolved := Array.replicate 45 none
  statics := none }

def pool2 : Array CpInfo := pool [(1, .methodref 2 3), (0, .class_ 4), (0, .nameAndType 5 6), (0, u "java/lang/Object"), (0, u "<init>"), (0, u "()V"), (0, .class_ 8), (0, u "java/lang/Record")] 13

def k2c0 : Code := { maxStack := 1, maxLocals := 1, code := jdk_30_method_1_code, exceptionTable := #[], attributes := #[] }
def k2m0 : Method := { name := "<init>", desc := "()V", sig := { parameters := [], returnType := none }, accessFlags := 4, code := some k2c0 }
/-- java/lang/Record -/
def k2 : Class := { plain "java/lang/Record" (some 0) with
  accessFlags := 1057
  interfaces := #[]
  cf := some (fileOf pool2 7 #[] #[{ accessFlags := 4, nameIndex := 5, descriptorIndex := 6, attributes := #[] }] 1057 2 #[] #[])
  fields := #[]
  methods := #[k2m0]
  instanceTypes := #[]
  staticTypes := #[]
  resolved := Array.replicate 22 none
  statics := none }

def pool3 : Array CpInfo := pool [(1, .methodref 2 3), (0, .class_ 4), (0, .nameAndType 5 6), (0, u "java/lang/Record"), (0, u "<init>"), (0, u "()V"), (0, .string 8), (0, u "ns"), (0, .methodref 10 11), (0, .class_ 12), (0, .nameAndType 13 14), (0, u "com/example/ticks_into_totals/ticksintototals/CounterName"), (0, u "checkToken"), (0, u "(Ljava/lang/String;Ljava/lang/String;)Ljava/lang/String;"), (0, .methodref 10 16), (0, .nameAndType 17 18), (0, u "checkId"), (0, u "(Ljava/lang/String;)Ljava/lang/String;"), (0, .string 20), (0, u "field"), (0, .fieldref 10 22), (0, .nameAndType 8 23), (0, u "Ljava/lang/String;"), (0, .fieldref 10 25), (0, .nameAndType 26 23), (0, u "id"), (0, .fieldref 10 28), (0, .nameAndType 20 23), (0, .methodref 30 31), (0, .class_ 32), (0, .nameAndType 33 34), (0, u "java/lang/String"), (0, u "equals"), (0, u "(Ljava/lang/Object;)Z"), (0, .methodref 30 36), (0, .nameAndType 37 38), (0, u "hashCode"), (0, u "()I"), (0, .methodref 40 41), (0, .class_ 42), (0, .nameAndType 43 44), (0, u "java/util/Objects"), (0, u "requireNonNull"), (0, u "(Ljava/lang/Object;Ljava/lang/String;)Ljava/lang/Object;"), (0, .methodref 30 46), (0, .nameAndType 47 48), (0, u "isEmpty"), (0, u "()Z"), (0, .methodref 30 50), (0, .nameAndType 51 38), (0, u "length"), (0, .methodref 10 53), (0, .nameAndType 54 55), (0, u "isToken"), (0, u "(Ljava/lang/String;)Z"), (19, .methodref 30 76), (0, .nameAndType 77 78), (0, u "charAt"), (0, u "(I)C"), (0, .methodref 10 80), (0, .nameAndType 81 82), (0, u "isTokenChar"), (0, u "(C)Z"), (0, .string 26), (0, .methodref 10 85), (0, .nameAndType 86 55), (0, u "pairsEverySurrogate"), (2, .fieldref 90 91), (0, .class_ 92), (0, .nameAndType 93 94), (0, u "java/nio/charset/StandardCharsets"), (0, u "UTF_8"), (0, u "Ljava/nio/charset/Charset;"), (0, .methodref 30 96), (0, .nameAndType 97 98), (0, u "getBytes"), (0, u "(Ljava/nio/charset/Charset;)[B"), (2, .methodref 10 102), (0, .nameAndType 103 55), (0, u "hasControlCharacter"), (2, .methodref 30 107), (0, .nameAndType 108 109), (0, u "codePointAt"), (0, u "(I)I"), (0, .class_ 111), (0, u "java/lang/Character"), (0, .integer 55296), (0, .integer 57343), (0, .methodref 110 115), (0, .nameAndType 116 109), (0, u "charCount"), (4, u "MAX_TOKEN_LENGTH"), (0, u "I"), (2, u "MAX_ID_BYTES"), (1, u "(Ljava/lang/String;Ljava/lang/String;Ljava/lang/String;)V")] 27

def k3c0 : Code := { maxStack := 2, maxLocals := 4, code := prog_3_method_1_code, exceptionTable := #[], attributes := #[] }
def k3m0 : Method := { name := "<init>", desc := "(Ljava/lang/String;Ljava/lang/String;Ljava/lang/String;)V", sig := { parameters := [(.object "java/lang/String"), (.object "java/lang/String"), (.object "java/lang/String")], returnType := none }, accessFlags := 1, code := some k3c0 }
def k3c1 : Code := { maxStack := 2, maxLocals := 3, code := prog_3_method_2_code, exceptionTable := #[], attributes := #[] }
def k3m1 : Method := { name := "equals", desc := "(Ljava/lang/Object;)Z", sig := { parameters := [(.object "java/lang/Object")], returnType := some .boolean }, accessFlags := 1, code := some k3c1 }
def k3c2 : Code := { maxStack := 2, maxLocals := 1, code := prog_3_method_3_code, exceptionTable := #[], attributes := #[] }
def k3m2 : Method := { name := "hashCode", desc := "()I", sig := { parameters := [], returnType := some .int }, accessFlags := 1, code := some k3c2 }
def k3c3 : Code := { maxStack := 7, maxLocals := 2, code := prog_3_method_4_code, exceptionTable := #[], attributes := #[] }
def k3m3 : Method := { name := "checkToken", desc := "(Ljava/lang/String;Ljava/lang/String;)Ljava/lang/String;", sig := { parameters := [(.object "java/lang/String"), (.object "java/lang/String")], returnType := some (.object "java/lang/String") }, accessFlags := 8, code := some k3c3 }
def k3c4 : Code := { maxStack := 2, maxLocals := 2, code := prog_3_method_5_code, exceptionTable := #[], attributes := #[] }
def k3m4 : Method := { name := "isToken", desc := "(Ljava/lang/String;)Z", sig := { parameters := [(.object "java/lang/String")], returnType := some .boolean }, accessFlags := 10, code := some k3c4 }
def k3c5 : Code := { maxStack := 2, maxLocals := 1, code := prog_3_method_6_code, exceptionTable := #[], attributes := #[] }
def k3m5 : Method := { name := "isTokenChar", desc := "(C)Z", sig := { parameters := [.char], returnType := some .boolean }, accessFlags := 10, code := some k3c5 }
def k3c6 : Code := { maxStack := 3, maxLocals := 2, code := prog_3_method_7_code, exceptionTable := #[], attributes := #[] }
def k3m6 : Method := { name := "checkId", desc := "(Ljava/lang/String;)Ljava/lang/String;", sig := { parameters := [(.object "java/lang/String")], returnType := some (.object "java/lang/String") }, accessFlags := 8, code := some k3c6 }
def k3c7 : Code := { maxStack := 2, maxLocals := 3, code := prog_3_method_8_code, exceptionTable := #[], attributes := #[] }
def k3m7 : Method := { name := "pairsEverySurrogate", desc := "(Ljava/lang/String;)Z", sig := { parameters := [(.object "java/lang/String")], returnType := some .boolean }, accessFlags := 10, code := some k3c7 }
def k3c8 : Code := { maxStack := 2, maxLocals := 3, code := prog_3_method_9_code, exceptionTable := #[], attributes := #[] }
def k3m8 : Method := { name := "hasControlCharacter", desc := "(Ljava/lang/String;)Z", sig := { parameters := [(.object "java/lang/String")], returnType := some .boolean }, accessFlags := 10, code := some k3c8 }
/-- com/example/ticks_into_totals/ticksintototals/CounterName -/
def k3 : Class := { plain "com/example/ticks_into_totals/ticksintototals/CounterName" (some 2) with
  accessFlags := 49
  interfaces := #[]
  cf := some (fileOf pool3 10 #[] #[{ accessFlags := 1, nameIndex := 5, descriptorIndex := 127, attributes := #[] }, { accessFlags := 1, nameIndex := 33, descriptorIndex := 34, attributes := #[] }, { accessFlags := 1, nameIndex := 37, descriptorIndex := 38, attributes := #[] }, { accessFlags := 8, nameIndex := 13, descriptorIndex := 14, attributes := #[] }, { accessFlags := 10, nameIndex := 54, descriptorIndex := 55, attributes := #[] }, { accessFlags := 10, nameIndex := 81, descriptorIndex := 82, attributes := #[] }, { accessFlags := 8, nameIndex := 17, descriptorIndex := 18, attributes := #[] }, { accessFlags := 10, nameIndex := 86, descriptorIndex := 55, attributes := #[] }, { accessFlags := 10, nameIndex := 103, descriptorIndex := 55, attributes := #[] }] 49 2 #[] #[{ accessFlags := 18, nameIndex := 8, descriptorIndex := 23, attributes := #[] }, { accessFlags := 18, nameIndex := 26, descriptorIndex := 23, attributes := #[] }, { accessFlags := 18, nameIndex := 20, descriptorIndex := 23, attributes := #[] }, { accessFlags := 26, nameIndex := 121, descriptorIndex := 122, attributes := #[] }, { accessFlags := 26, nameIndex := 125, descriptorIndex := 122, attributes := #[] }])
  fields := #[{ name := "ns", type := (.object "java/lang/String"), accessFlags := 18, slot := 0, constantValue := 0 }, { name := "id", type := (.object "java/lang/String"), accessFlags := 18, slot := 1, constantValue := 0 }, { name := "field", type := (.object "java/lang/String"), accessFlags := 18, slot := 2, constantValue := 0 }, { name := "MAX_TOKEN_LENGTH", type := .int, accessFlags := 26, slot := 0, constantValue := 0 }, { name := "MAX_ID_BYTES", type := .int, accessFlags := 26, slot := 1, constantValue := 0 }]
  methods := #[k3m0, k3m1, k3m2, k3m3, k3m4, k3m5, k3m6, k3m7, k3m8]
  instanceTypes := #[(.object "java/lang/String"), (.object "java/lang/String"), (.object "java/lang/String")]
  staticTypes := #[.int, .int]
  resolved := Array.replicate 155 none
  statics := none }

def pool4 : Array CpInfo := pool [(1, .class_ 2), (0, u "java/io/Serializable"), (0, .class_ 4), (0, u "java/lang/Object")] 2

/-- java/io/Serializable -/
def k4 : Class := { plain "java/io/Serializable" (some 0) with
  accessFlags := 1537
  interfaces := #[]
  cf := some (fileOf pool4 1 #[] #[] 1537 3 #[] #[])
  fields := #[]
  methods := #[]
  instanceTypes := #[]
  staticTypes := #[]
  resolved := Array.replicate 7 none
  statics := none }

def pool5 : Array CpInfo := pool [(1, .class_ 2), (0, u "java/lang/Comparable"), (0, .class_ 4), (0, u "java/lang/Object")] 7

/-- java/lang/Comparable -/
def k5 : Class := { plain "java/lang/Comparable" (some 0) with
  accessFlags := 1537
  interfaces := #[]
  cf := some (fileOf pool5 1 #[] #[] 1537 3 #[] #[])
  fields := #[]
  methods := #[]
  instanceTypes := #[]
  staticTypes := #[]
  resolved := Array.replicate 12 none
  statics := none }

def pool6 : Array CpInfo := pool [(2, .class_ 4), (1, u "java/lang/CharSequence"), (42, .class_ 48), (0, u "java/lang/CharSequence$1CodePointIterator"), (10, .class_ 60), (0, u "java/lang/CharSequence$1CharIterator"), (5, .class_ 67), (0, u "java/lang/Object")] 63

/-- java/lang/CharSequence -/
def k6 : Class := { plain "java/lang/CharSequence" (some 0) with
  accessFlags := 1537
  interfaces := #[]
  cf := some (fileOf pool6 2 #[.nestMembers #[47, 59]] #[] 1537 66 #[] #[])
  fields := #[]
  methods := #[]
  instanceTypes := #[]
  staticTypes := #[]
  resolved := Array.replicate 131 none
  statics := none }

def pool7 : Array CpInfo := pool [(1, .class_ 2), (0, u "java/lang/constant/Constable"), (0, .class_ 4), (0, u "java/lang/Object")] 6

/-- java/lang/constant/Constable -/
def k7 : Class := { plain "java/lang/constant/Constable" (some 0) with
  accessFlags := 1537
  interfaces := #[]
  cf := some (fileOf pool7 1 #[] #[] 1537 3 #[] #[])
  fields := #[]
  methods := #[]
  instanceTypes := #[]
  staticTypes := #[]
  resolved := Array.replicate 11 none
  statics := none }

def pool8 : Array CpInfo := pool [(1, .class_ 2), (0, u "java/lang/constant/ConstantDesc"), (0, .class_ 4), (0, u "java/lang/Object")] 32

/-- java/lang/constant/ConstantDesc -/
def k8 : Class := { plain "java/lang/constant/ConstantDesc" (some 0) with
  accessFlags := 1537
  interfaces := #[]
  cf := some (fileOf pool8 1 #[] #[] 1537 3 #[] #[])
  fields := #[]
  methods := #[]
  instanceTypes := #[]
  staticTypes := #[]
  resolved := Array.replicate 37 none
  statics := none }

def pool9 : Array CpInfo := pool [(1, .methodref 2 3), (0, .class_ 4), (0, .nameAndType 5 6), (0, u "java/lang/Object"), (0, u "<init>"), (0, u "()V"), (2, .fieldref 10 11), (0, .class_ 12), (0, .nameAndType 13 14), (0, u "java/lang/String"), (0, u "value"), (0, u "[B"), (0, .fieldref 10 16), (0, .nameAndType 17 18), (0, u "coder"), (0, u "B"), (0, .fieldref 10 20), (0, .nameAndType 21 22), (0, u "hash"), (0, u "I"), (0, .fieldref 10 24), (0, .nameAndType 25 26), (0, u "hashIsZero"), (0, u "Z"), (0, .methodref 10 28), (0, .nameAndType 5 29), (0, u "([CIILjava/lang/Void;)V"), (8, .fieldref 10 39), (0, .nameAndType 40 26), (0, u "COMPACT_STRINGS"), (1, .class_ 44), (1, u "java/lang/StringUTF16"), (0, u "compress"), (1, .methodref 42 48), (0, .nameAndType 49 50), (0, u "coderFromArrayLen"), (0, u "([BI)B"), (4, .class_ 57), (1, u "java/util/Arrays"), (2, .methodref 42 61), (0, .nameAndType 62 63), (0, u "newBytesFor"), (0, u "(I)[B"), (22, .fieldref 87 88), (0, .class_ 89), (0, .nameAndType 90 91), (0, u "sun/nio/cs/UTF_8"), (0, u "INSTANCE"), (0, u "Lsun/nio/cs/UTF_8;"), (1, .class_ 95), (1, u "java/lang/StringCoding"), (6, .methodref 55 103), (0, .nameAndType 104 105), (0, u "copyOf"), (0, u "([BI)[B"), (1, .class_ 109), (1, u "java/lang/StringLatin1"), (18, .methodref 93 129), (0, .nameAndType 130 131), (0, u "hasNegatives"), (0, u "([BII)Z"), (10, u "()Z"), (34, .methodref 42 178), (0, .nameAndType 45 179), (0, u "([CII)[B"), (72, .methodref 10 253), (0, .nameAndType 254 255), (0, u "encodeUTF8"), (0, u "(B[BZ)[B"), (23, .methodref 280 281), (0, .class_ 14), (0, .nameAndType 282 283), (0, u "clone"), (0, u "()Ljava/lang/Object;"), (33, u "encode"), (16, u "()I"), (0, .methodref 10 336), (0, .nameAndType 17 337), (0, u "()B"), (25, u "([BI)C"), (27, u "(II)V"), (35, u "(I)C"), (64, .methodref 10 493), (0, .nameAndType 494 142), (0, u "isLatin1"), (0, .methodref 107 496), (0, .nameAndType 497 363), (0, u "charAt"), (1, .methodref 10 500), (0, .nameAndType 501 391), (0, u "checkIndex"), (2, u "codePointAt"), (2, u "length"), (24, u "getBytes"), (2, .methodref 10 536), (0, .nameAndType 317 537), (0, u "(Ljava/nio/charset/Charset;B[B)[B"), (3, .methodref 107 542), (0, .nameAndType 543 544), (0, u "equals"), (0, u "([B[B)Z"), (28, u "(Ljava/lang/Object;)Z"), (1, .class_ 576), (0, u "java/lang/CharSequence"), (22, u "CASE_INSENSITIVE_ORDER"), (0, u "Ljava/util/Comparator;"), (27, .methodref 107 629), (0, .nameAndType 630 631), (0, u "hashCode"), (0, u "([B)I"), (60, u "isEmpty"), (72, u "(I)I"), (244, u "([C)V"), (42, .fieldref 1054 1055), (0, .class_ 1056), (0, .nameAndType 1057 1058), (0, u "jdk/internal/util/Preconditions"), (0, u "SIOOBE_FORMATTER"), (0, u "Ljava/util/function/BiFunction;"), (0, .methodref 1054 1060), (0, .nameAndType 501 1061), (0, u "(IILjava/util/function/BiFunction;)I"), (39, u "serialPersistentFields"), (0, u "[Ljava/io/ObjectStreamField;"), (0, .class_ 1104), (0, u "java/lang/String$CaseInsensitiveComparator"), (1, .class_ 1107), (0, u "java/io/Serializable"), (0, .class_ 1109), (0, u "java/lang/Comparable"), (0, .class_ 1111), (0, u "java/lang/constant/Constable"), (0, .class_ 1113), (0, u "java/lang/constant/ConstantDesc"), (2, u "serialVersionUID"), (0, u "J"), (3, u "REPL"), (0, u "C"), (2, u "LATIN1"), (1, u "UTF16"), (117, u "(Ljava/nio/charset/Charset;)[B")] 205

def k9m0 : Method := { name := "<init>", desc := "()V", sig := { parameters := [], returnType := none }, accessFlags := 1, code := none }
def k9c1 : Code := { maxStack := 5, maxLocals := 2, code := jdk_42_method_3_code, exceptionTable := #[], attributes := #[] }
def k9m1 : Method := { name := "<init>", desc := "([C)V", sig := { parameters := [(.array .char)], returnType := none }, accessFlags := 1, code := some k9c1 }
def k9c2 : Code := { maxStack := 4, maxLocals := 3, code := jdk_42_method_18_code, exceptionTable := #[], attributes := #[] }
def k9m2 : Method := { name := "encode", desc := "(Ljava/nio/charset/Charset;B[B)[B", sig := { parameters := [(.object "java/nio/charset/Charset"), .byte, (.array .byte)], returnType := some (.array .byte) }, accessFlags := 10, code := some k9c2 }
def k9c3 : Code := { maxStack := 5, maxLocals := 9, code := jdk_42_method_46_code, exceptionTable := #[], attributes := #[] }
def k9m3 : Method := { name := "encodeUTF8", desc := "(B[BZ)[B", sig := { parameters := [.byte, (.array .byte), .boolean], returnType := some (.array .byte) }, accessFlags := 10, code := some k9c3 }
def k9c4 : Code := { maxStack := 2, maxLocals := 1, code := jdk_42_method_54_code, exceptionTable := #[], attributes := #[] }
def k9m4 : Method := { name := "length", desc := "()I", sig := { parameters := [], returnType := some .int }, accessFlags := 1, code := some k9c4 }
def k9c5 : Code := { maxStack := 1, maxLocals := 1, code := jdk_42_method_55_code, exceptionTable := #[], attributes := #[] }
def k9m5 : Method := { name := "isEmpty", desc := "()Z", sig := { parameters := [], returnType := some .boolean }, accessFlags := 1, code := some k9c5 }
def k9c6 : Code := { maxStack := 2, maxLocals := 2, code := jdk_42_method_56_code, exceptionTable := #[], attributes := #[] }
def k9m6 : Method := { name := "charAt", desc := "(I)C", sig := { parameters := [.int], returnType := some .char }, accessFlags := 1, code := some k9c6 }
def k9c7 : Code := { maxStack := 3, maxLocals := 3, code := jdk_42_method_57_code, exceptionTable := #[], attributes := #[] }
def k9m7 : Method := { name := "codePointAt", desc := "(I)I", sig := { parameters := [.int], returnType := some .int }, accessFlags := 1, code := some k9c7 }
def k9c8 : Code := { maxStack := 3, maxLocals := 2, code := jdk_42_method_64_code, exceptionTable := #[], attributes := #[] }
def k9m8 : Method := { name := "getBytes", desc := "(Ljava/nio/charset/Charset;)[B", sig := { parameters := [(.object "java/nio/charset/Charset")], returnType := some (.array .byte) }, accessFlags := 1, code := some k9c8 }
def k9c9 : Code := { maxStack := 2, maxLocals := 3, code := jdk_42_method_66_code, exceptionTable := #[], attributes := #[] }
def k9m9 : Method := { name := "equals", desc := "(Ljava/lang/Object;)Z", sig := { parameters := [(.object "java/lang/Object")], returnType := some .boolean }, accessFlags := 1, code := some k9c9 }
def k9c10 : Code := { maxStack := 2, maxLocals := 2, code := jdk_42_method_78_code, exceptionTable := #[], attributes := #[] }
def k9m10 : Method := { name := "hashCode", desc := "()I", sig := { parameters := [], returnType := some .int }, accessFlags := 1, code := some k9c10 }
def k9c11 : Code := { maxStack := 4, maxLocals := 6, code := jdk_42_method_149_code, exceptionTable := #[], attributes := #[] }
def k9m11 : Method := { name := "<init>", desc := "([CIILjava/lang/Void;)V", sig := { parameters := [(.array .char), .int, .int, (.object "java/lang/Void")], returnType := none }, accessFlags := 2, code := some k9c11 }
def k9c12 : Code := { maxStack := 1, maxLocals := 1, code := jdk_42_method_152_code, exceptionTable := #[], attributes := #[] }
def k9m12 : Method := { name := "coder", desc := "()B", sig := { parameters := [], returnType := some .byte }, accessFlags := 0, code := some k9c12 }
def k9c13 : Code := { maxStack := 1, maxLocals := 1, code := jdk_42_method_154_code, exceptionTable := #[], attributes := #[] }
def k9m13 : Method := { name := "isLatin1", desc := "()Z", sig := { parameters := [], returnType := some .boolean }, accessFlags := 0, code := some k9c13 }
def k9c14 : Code := { maxStack := 3, maxLocals := 2, code := jdk_42_method_155_code, exceptionTable := #[], attributes := #[] }
def k9m14 : Method := { name := "checkIndex", desc := "(II)V", sig := { parameters := [.int, .int], returnType := none }, accessFlags := 8, code := some k9c14 }
/-- java/lang/String -/
def k9 : Class := { plain "java/lang/String" (some 0) with
  accessFlags := 49
  interfaces := #[4, 5, 6, 7, 8]
  cf := some (fileOf pool9 10 #[.nestMembers #[1103]] #[{ accessFlags := 1, nameIndex := 5, descriptorIndex := 6, attributes := #[] }, { accessFlags := 1, nameIndex := 5, descriptorIndex := 1010, attributes := #[] }, { accessFlags := 10, nameIndex := 317, descriptorIndex := 537, attributes := #[] }, { accessFlags := 10, nameIndex := 254, descriptorIndex := 255, attributes := #[] }, { accessFlags := 1, nameIndex := 507, descriptorIndex := 334, attributes := #[] }, { accessFlags := 1, nameIndex := 692, descriptorIndex := 142, attributes := #[] }, { accessFlags := 1, nameIndex := 497, descriptorIndex := 427, attributes := #[] }, { accessFlags := 1, nameIndex := 504, descriptorIndex := 765, attributes := #[] }, { accessFlags := 1, nameIndex := 532, descriptorIndex := 1245, attributes := #[] }, { accessFlags := 1, nameIndex := 543, descriptorIndex := 573, attributes := #[] }, { accessFlags := 1, nameIndex := 630, descriptorIndex := 334, attributes := #[] }, { accessFlags := 2, nameIndex := 5, descriptorIndex := 29, attributes := #[] }, { accessFlags := 0, nameIndex := 17, descriptorIndex := 337, attributes := #[] }, { accessFlags := 0, nameIndex := 494, descriptorIndex := 142, attributes := #[] }, { accessFlags := 8, nameIndex := 501, descriptorIndex := 391, attributes := #[] }] 49 2 #[1106, 1108, 575, 1110, 1112] #[{ accessFlags := 18, nameIndex := 13, descriptorIndex := 14, attributes := #[] }, { accessFlags := 18, nameIndex := 17, descriptorIndex := 18, attributes := #[] }, { accessFlags := 2, nameIndex := 21, descriptorIndex := 22, attributes := #[] }, { accessFlags := 2, nameIndex := 25, descriptorIndex := 26, attributes := #[] }, { accessFlags := 26, nameIndex := 1116, descriptorIndex := 1117, attributes := #[] }, { accessFlags := 24, nameIndex := 40, descriptorIndex := 26, attributes := #[] }, { accessFlags := 26, nameIndex := 1101, descriptorIndex := 1102, attributes := #[] }, { accessFlags := 26, nameIndex := 1121, descriptorIndex := 1122, attributes := #[] }, { accessFlags := 25, nameIndex := 599, descriptorIndex := 600, attributes := #[] }, { accessFlags := 24, nameIndex := 1125, descriptorIndex := 18, attributes := #[] }, { accessFlags := 24, nameIndex := 1127, descriptorIndex := 18, attributes := #[] }])
  fields := #[{ name := "value", type := (.array .byte), accessFlags := 18, slot := 0, constantValue := 0 }, { name := "coder", type := .byte, accessFlags := 18, slot := 1, constantValue := 0 }, { name := "hash", type := .int, accessFlags := 2, slot := 2, constantValue := 0 }, { name := "hashIsZero", type := .boolean, accessFlags := 2, slot := 3, constantValue := 0 }, { name := "serialVersionUID", type := .long, accessFlags := 26, slot := 0, constantValue := 0 }, { name := "COMPACT_STRINGS", type := .boolean, accessFlags := 24, slot := 1, constantValue := 0 }, { name := "serialPersistentFields", type := (.array (.object "java/io/ObjectStreamField")), accessFlags := 26, slot := 2, constantValue := 0 }, { name := "REPL", type := .char, accessFlags := 26, slot := 3, constantValue := 0 }, { name := "CASE_INSENSITIVE_ORDER", type := (.object "java/util/Comparator"), accessFlags := 25, slot := 4, constantValue := 0 }, { name := "LATIN1", type := .byte, accessFlags := 24, slot := 5, constantValue := 0 }, { name := "UTF16", type := .byte, accessFlags := 24, slot := 6, constantValue := 0 }]
  methods := #[k9m0, k9m1, k9m2, k9m3, k9m4, k9m5, k9m6, k9m7, k9m8, k9m9, k9m10, k9m11, k9m12, k9m13, k9m14]
  instanceTypes := #[(.array .byte), .byte, .int, .boolean]
  staticTypes := #[.long, .boolean, (.array (.object "java/io/ObjectStreamField")), .char, (.object "java/util/Comparator"), .byte, .byte]
  resolved := Array.replicate 1451 none
  statics := some 0 }

def pool10 : Array CpInfo := pool [(6, .class_ 8), (1, u "java/lang/Object"), (0, u "<init>"), (0, u "()V"), (0, .methodref 12 13), (0, .class_ 14), (0, .nameAndType 15 16), (0, u "java/lang/StringUTF16"), (0, u "newBytesLength"), (0, u "(I)I"), (3, .integer 1073741823), (25, u "$assertionsDisabled"), (0, u "Z"), (13, u "HI_BYTE_SHIFT"), (0, u "I"), (2, u "LO_BYTE_SHIFT"), (43, u "newBytesFor"), (0, u "(I)[B"), (4, .methodref 12 116), (0, .nameAndType 117 118), (0, u "compress"), (0, u "([CI[BII)I"), (3, u "([CII)[B"), (138, u "coderFromArrayLen"), (0, u "([BI)B"), (106, .class_ 371), (1, u "java/lang/StringUTF16$LinesSpliterator"), (58, u "MAX_LENGTH"), (196, .class_ 628), (0, u "java/lang/StringUTF16$CodePointsSpliterator"), (0, .class_ 630), (0, u "java/lang/StringUTF16$CharsSpliterator")] 4

def k10m0 : Method := { name := "<init>", desc := "()V", sig := { parameters := [], returnType := none }, accessFlags := 0, code := none }
def k10c1 : Code := { maxStack := 1, maxLocals := 1, code := jdk_52_method_2_code, exceptionTable := #[], attributes := #[] }
def k10m1 : Method := { name := "newBytesFor", desc := "(I)[B", sig := { parameters := [.int], returnType := some (.array .byte) }, accessFlags := 9, code := some k10c1 }
def k10c2 : Code := { maxStack := 4, maxLocals := 1, code := jdk_52_method_3_code, exceptionTable := #[], attributes := #[] }
def k10m2 : Method := { name := "newBytesLength", desc := "(I)I", sig := { parameters := [.int], returnType := some .int }, accessFlags := 9, code := some k10c2 }
def k10c3 : Code := { maxStack := 2, maxLocals := 2, code := jdk_52_method_15_code, exceptionTable := #[], attributes := #[] }
def k10m3 : Method := { name := "coderFromArrayLen", desc := "([BI)B", sig := { parameters := [(.array .byte), .int], returnType := some .byte }, accessFlags := 8, code := some k10c3 }
def k10c4 : Code := { maxStack := 5, maxLocals := 6, code := jdk_52_method_16_code, exceptionTable := #[], attributes := #[] }
def k10m4 : Method := { name := "compress", desc := "([CII)[B", sig := { parameters := [(.array .char), .int, .int], returnType := some (.array .byte) }, accessFlags := 9, code := some k10c4 }
def k10c5 : Code := { maxStack := 3, maxLocals := 7, code := jdk_52_method_21_code, exceptionTable := #[], attributes := #[] }
def k10m5 : Method := { name := "compress", desc := "([CI[BII)I", sig := { parameters := [(.array .char), .int, (.array .byte), .int, .int], returnType := some .int }, accessFlags := 9, code := some k10c5 }
/-- java/lang/StringUTF16 -/
def k10 : Class := { plain "java/lang/StringUTF16" (some 0) with
  accessFlags := 48
  interfaces := #[]
  cf := some (fileOf pool10 12 #[.nestMembers #[627, 629, 369]] #[{ accessFlags := 0, nameIndex := 9, descriptorIndex := 10, attributes := #[] }, { accessFlags := 9, nameIndex := 109, descriptorIndex := 110, attributes := #[] }, { accessFlags := 9, nameIndex := 15, descriptorIndex := 16, attributes := #[] }, { accessFlags := 8, nameIndex := 261, descriptorIndex := 262, attributes := #[] }, { accessFlags := 9, nameIndex := 117, descriptorIndex := 122, attributes := #[] }, { accessFlags := 9, nameIndex := 117, descriptorIndex := 118, attributes := #[] }] 48 6 #[] #[{ accessFlags := 26, nameIndex := 61, descriptorIndex := 62, attributes := #[] }, { accessFlags := 26, nameIndex := 65, descriptorIndex := 62, attributes := #[] }, { accessFlags := 24, nameIndex := 430, descriptorIndex := 62, attributes := #[] }, { accessFlags := 4120, nameIndex := 46, descriptorIndex := 47, attributes := #[] }])
  fields := #[{ name := "HI_BYTE_SHIFT", type := .int, accessFlags := 26, slot := 0, constantValue := 0 }, { name := "LO_BYTE_SHIFT", type := .int, accessFlags := 26, slot := 1, constantValue := 0 }, { name := "MAX_LENGTH", type := .int, accessFlags := 24, slot := 2, constantValue := 0 }, { name := "$assertionsDisabled", type := .boolean, accessFlags := 4120, slot := 3, constantValue := 0 }]
  methods := #[k10m0, k10m1, k10m2, k10m3, k10m4, k10m5]
  instanceTypes := #[]
  staticTypes := #[.int, .int, .int, .boolean]
  resolved := Array.replicate 635 none
  statics := none }

def pool11 : Array CpInfo := pool [(2, .class_ 4), (1, u "java/lang/Object"), (0, u "<init>"), (0, u "()V"), (35, .class_ 44), (1, u "java/util/Objects"), (0, u "requireNonNull"), (48, u "(Ljava/lang/Object;Ljava/lang/String;)Ljava/lang/Object;")] 89

def k11m0 : Method := { name := "<init>", desc := "()V", sig := { parameters := [], returnType := none }, accessFlags := 2, code := none }
def k11c1 : Code := { maxStack := 3, maxLocals := 2, code := jdk_31_method_11_code, exceptionTable := #[], attributes := #[] }
def k11m1 : Method := { name := "requireNonNull", desc := "(Ljava/lang/Object;Ljava/lang/String;)Ljava/lang/Object;", sig := { parameters := [(.object "java/lang/Object"), (.object "java/lang/String")], returnType := some (.object "java/lang/Object") }, accessFlags := 9, code := some k11c1 }
/-- java/util/Objects -/
def k11 : Class := { plain "java/util/Objects" (some 0) with
  accessFlags := 49
  interfaces := #[]
  cf := some (fileOf pool11 42 #[] #[{ accessFlags := 2, nameIndex := 5, descriptorIndex := 6, attributes := #[] }, { accessFlags := 9, nameIndex := 45, descriptorIndex := 94, attributes := #[] }] 49 2 #[] #[])
  fields := #[]
  methods := #[k11m0, k11m1]
  instanceTypes := #[]
  staticTypes := #[]
  resolved := Array.replicate 184 none
  statics := none }

def pool12 : Array CpInfo := pool [(1, .class_ 2), (0, u "java/lang/String"), (1, .class_ 6), (1, u "java/lang/Object"), (0, u "<init>"), (0, u "()V"), (0, .methodref 1 10), (0, .nameAndType 11 12), (0, u "checkIndex"), (0, u "(II)V"), (1, .class_ 16), (1, u "java/lang/StringLatin1"), (28, .class_ 47), (1, u "jdk/internal/util/ArraysSupport"), (5, u "([BI)C"), (3, u "([B)I"), (26, .methodref 45 85), (0, .nameAndType 86 87), (0, u "vectorizedHashCode"), (0, u "(Ljava/lang/Object;IIII)I"), (33, u "$assertionsDisabled"), (0, u "Z"), (98, .class_ 223), (1, u "java/lang/StringLatin1$LinesSpliterator"), (28, u "charAt"), (28, u "equals"), (0, u "([B[B)Z"), (15, u "hashCode"), (91, .class_ 391), (0, u "java/lang/StringLatin1$CharsSpliterator")] 3

def k12m0 : Method := { name := "<init>", desc := "()V", sig := { parameters := [], returnType := none }, accessFlags := 0, code := none }
def k12c1 : Code := { maxStack := 2, maxLocals := 2, code := jdk_43_method_2_code, exceptionTable := #[], attributes := #[] }
def k12m1 : Method := { name := "charAt", desc := "([BI)C", sig := { parameters := [(.array .byte), .int], returnType := some .char }, accessFlags := 9, code := some k12c1 }
def k12c2 : Code := { maxStack := 3, maxLocals := 3, code := jdk_43_method_13_code, exceptionTable := #[], attributes := #[] }
def k12m2 : Method := { name := "equals", desc := "([B[B)Z", sig := { parameters := [(.array .byte), (.array .byte)], returnType := some .boolean }, accessFlags := 9, code := some k12c2 }
def k12c3 : Code := { maxStack := 5, maxLocals := 1, code := jdk_43_method_21_code, exceptionTable := #[], attributes := #[] }
def k12m3 : Method := { name := "hashCode", desc := "([B)I", sig := { parameters := [(.array .byte)], returnType := some .int }, accessFlags := 9, code := some k12c3 }
/-- java/lang/StringLatin1 -/
def k12 : Class := { plain "java/lang/StringLatin1" (some 0) with
  accessFlags := 48
  interfaces := #[]
  cf := some (fileOf pool12 14 #[.nestMembers #[390, 221]] #[{ accessFlags := 0, nameIndex := 7, descriptorIndex := 8, attributes := #[] }, { accessFlags := 9, nameIndex := 252, descriptorIndex := 53, attributes := #[] }, { accessFlags := 9, nameIndex := 281, descriptorIndex := 282, attributes := #[] }, { accessFlags := 9, nameIndex := 298, descriptorIndex := 57, attributes := #[] }] 48 4 #[] #[{ accessFlags := 4120, nameIndex := 121, descriptorIndex := 122, attributes := #[] }])
  fields := #[{ name := "$assertionsDisabled", type := .boolean, accessFlags := 4120, slot := 0, constantValue := 0 }]
  methods := #[k12m0, k12m1, k12m2, k12m3]
  instanceTypes := #[]
  staticTypes := #[.boolean]
  resolved := Array.replicate 395 none
  statics := none }

def pool13 : Array CpInfo := pool [(2, .class_ 4), (1, u "java/lang/Object"), (0, u "<init>"), (0, u "()V"), (17, .class_ 26), (1, u "jdk/internal/util/Preconditions"), (6, u "checkIndex"), (21, .class_ 56), (0, u "jdk/internal/util/Preconditions$4"), (57, .class_ 115), (0, u "jdk/internal/util/Preconditions$1"), (7, u "SIOOBE_FORMATTER"), (0, u "Ljava/util/function/BiFunction;"), (0, .class_ 126), (0, u "jdk/internal/util/Preconditions$2"), (3, u "AIOOBE_FORMATTER"), (0, .class_ 132), (0, u "jdk/internal/util/Preconditions$3"), (3, u "IOOBE_FORMATTER"), (41, u "(IILjava/util/function/BiFunction;)I")] 15

def k13m0 : Method := { name := "<init>", desc := "()V", sig := { parameters := [], returnType := none }, accessFlags := 1, code := none }
def k13c1 : Code := { maxStack := 3, maxLocals := 3, code := jdk_41_method_11_code, exceptionTable := #[], attributes := #[] }
def k13m1 : Method := { name := "checkIndex", desc := "(IILjava/util/function/BiFunction;)I", sig := { parameters := [.int, .int, (.object "java/util/function/BiFunction")], returnType := some .int }, accessFlags := 9, code := some k13c1 }
/-- jdk/internal/util/Preconditions -/
def k13 : Class := { plain "jdk/internal/util/Preconditions" (some 0) with
  accessFlags := 33
  interfaces := #[]
  cf := some (fileOf pool13 24 #[.nestMembers #[55, 131, 125, 114]] #[{ accessFlags := 1, nameIndex := 5, descriptorIndex := 6, attributes := #[] }, { accessFlags := 9, nameIndex := 33, descriptorIndex := 178, attributes := #[] }] 33 2 #[] #[{ accessFlags := 25, nameIndex := 123, descriptorIndex := 124, attributes := #[] }, { accessFlags := 25, nameIndex := 130, descriptorIndex := 124, attributes := #[] }, { accessFlags := 25, nameIndex := 136, descriptorIndex := 124, attributes := #[] }])
  fields := #[{ name := "SIOOBE_FORMATTER", type := (.object "java/util/function/BiFunction"), accessFlags := 25, slot := 0, constantValue := 0 }, { name := "AIOOBE_FORMATTER", type := (.object "java/util/function/BiFunction"), accessFlags := 25, slot := 1, constantValue := 0 }, { name := "IOOBE_FORMATTER", type := (.object "java/util/function/BiFunction"), accessFlags := 25, slot := 2, constantValue := 0 }]
  methods := #[k13m0, k13m1]
  instanceTypes := #[]
  staticTypes := #[(.object "java/util/function/BiFunction"), (.object "java/util/function/BiFunction"), (.object "java/util/function/BiFunction")]
  resolved := Array.replicate 194 none
  statics := some 1 }

def pool14 : Array CpInfo := pool [(1, .class_ 2), (0, u "java/lang/Character"), (18, u "value"), (0, u "C"), (19, .class_ 44), (1, u "java/lang/Object"), (3, .class_ 50), (1, u "java/lang/Character$CharacterCache"), (22, .integer 65536), (100, u "(I)I"), (109, u "$assertionsDisabled"), (0, u "Z"), (21, .class_ 309), (1, u "java/lang/Character$UnicodeBlock"), (73, u "TYPE"), (0, u "Ljava/lang/Class;"), (0, .class_ 386), (0, u "java/io/Serializable"), (0, .class_ 388), (0, u "java/lang/Comparable"), (0, .class_ 390), (0, u "java/lang/constant/Constable"), (0, u "MIN_RADIX"), (0, u "I"), (2, u "MAX_RADIX"), (1, u "MIN_VALUE"), (1, u "MAX_VALUE"), (3, u "UNASSIGNED"), (0, u "B"), (0, u "UPPERCASE_LETTER"), (1, u "LOWERCASE_LETTER"), (0, u "TITLECASE_LETTER"), (1, u "MODIFIER_LETTER"), (1, u "OTHER_LETTER"), (1, u "NON_SPACING_MARK"), (1, u "ENCLOSING_MARK"), (1, u "COMBINING_SPACING_MARK"), (1, u "DECIMAL_DIGIT_NUMBER"), (1, u "LETTER_NUMBER"), (1, u "OTHER_NUMBER"), (1, u "SPACE_SEPARATOR"), (1, u "LINE_SEPARATOR"), (1, u "PARAGRAPH_SEPARATOR"), (1, u "CONTROL"), (1, u "FORMAT"), (1, u "PRIVATE_USE"), (1, u "SURROGATE"), (1, u "DASH_PUNCTUATION"), (1, u "START_PUNCTUATION"), (1, u "END_PUNCTUATION"), (1, u "CONNECTOR_PUNCTUATION"), (1, u "OTHER_PUNCTUATION"), (1, u "MATH_SYMBOL"), (1, u "CURRENCY_SYMBOL"), (1, u "MODIFIER_SYMBOL"), (1, u "OTHER_SYMBOL"), (1, u "INITIAL_QUOTE_PUNCTUATION"), (1, u "FINAL_QUOTE_PUNCTUATION"), (1, u "ERROR"), (1, u "DIRECTIONALITY_UNDEFINED"), (0, u "DIRECTIONALITY_LEFT_TO_RIGHT"), (0, u "DIRECTIONALITY_RIGHT_TO_LEFT"), (0, u "DIRECTIONALITY_RIGHT_TO_LEFT_ARABIC"), (0, u "DIRECTIONALITY_EUROPEAN_NUMBER"), (0, u "DIRECTIONALITY_EUROPEAN_NUMBER_SEPARATOR"), (0, u "DIRECTIONALITY_EUROPEAN_NUMBER_TERMINATOR"), (0, u "DIRECTIONALITY_ARABIC_NUMBER"), (0, u "DIRECTIONALITY_COMMON_NUMBER_SEPARATOR"), (0, u "DIRECTIONALITY_NONSPACING_MARK"), (0, u "DIRECTIONALITY_BOUNDARY_NEUTRAL"), (0, u "DIRECTIONALITY_PARAGRAPH_SEPARATOR"), (0, u "DIRECTIONALITY_SEGMENT_SEPARATOR"), (0, u "DIRECTIONALITY_WHITESPACE"), (0, u "DIRECTIONALITY_OTHER_NEUTRALS"), (0, u "DIRECTIONALITY_LEFT_TO_RIGHT_EMBEDDING"), (0, u "DIRECTIONALITY_LEFT_TO_RIGHT_OVERRIDE"), (0, u "DIRECTIONALITY_RIGHT_TO_LEFT_EMBEDDING"), (0, u "DIRECTIONALITY_RIGHT_TO_LEFT_OVERRIDE"), (1, u "DIRECTIONALITY_POP_DIRECTIONAL_FORMAT"), (0, u "DIRECTIONALITY_LEFT_TO_RIGHT_ISOLATE"), (0, u "DIRECTIONALITY_RIGHT_TO_LEFT_ISOLATE"), (0, u "DIRECTIONALITY_FIRST_STRONG_ISOLATE"), (0, u "DIRECTIONALITY_POP_DIRECTIONAL_ISOLATE"), (0, u "MIN_HIGH_SURROGATE"), (0, u "MAX_HIGH_SURROGATE"), (1, u "MIN_LOW_SURROGATE"), (0, u "MAX_LOW_SURROGATE"), (1, u "MIN_SURROGATE"), (0, u "MAX_SURROGATE"), (0, u "MIN_SUPPLEMENTARY_CODE_POINT"), (0, u "MIN_CODE_POINT"), (0, u "MAX_CODE_POINT"), (1, u "serialVersionUID"), (0, u "J"), (2, u "SIZE"), (0, u "BYTES"), (29, u "charCount"), (58, .class_ 596), (0, u "java/lang/Character$UnicodeScript"), (0, .class_ 598), (0, u "java/lang/Character$Subset")] 5

def k14c0 : Code := { maxStack := 2, maxLocals := 1, code := jdk_89_method_18_code, exceptionTable := #[], attributes := #[] }
def k14m0 : Method := { name := "charCount", desc := "(I)I", sig := { parameters := [.int], returnType := some .int }, accessFlags := 9, code := some k14c0 }
/-- java/lang/Character -/
def k14 : Class := { plain "java/lang/Character" (some 0) with
  accessFlags := 49
  interfaces := #[4, 5, 7]
  cf := some (fileOf pool14 1 #[.nestMembers #[48, 595, 307, 597]] #[{ accessFlags := 9, nameIndex := 536, descriptorIndex := 174, attributes := #[] }] 49 42 #[385, 387, 389] #[{ accessFlags := 25, nameIndex := 391, descriptorIndex := 392, attributes := #[] }, { accessFlags := 25, nameIndex := 395, descriptorIndex := 392, attributes := #[] }, { accessFlags := 25, nameIndex := 397, descriptorIndex := 22, attributes := #[] }, { accessFlags := 25, nameIndex := 399, descriptorIndex := 22, attributes := #[] }, { accessFlags := 25, nameIndex := 383, descriptorIndex := 384, attributes := #[] }, { accessFlags := 25, nameIndex := 403, descriptorIndex := 404, attributes := #[] }, { accessFlags := 25, nameIndex := 405, descriptorIndex := 404, attributes := #[] }, { accessFlags := 25, nameIndex := 407, descriptorIndex := 404, attributes := #[] }, { accessFlags := 25, nameIndex := 408, descriptorIndex := 404, attributes := #[] }, { accessFlags := 25, nameIndex := 410, descriptorIndex := 404, attributes := #[] }, { accessFlags := 25, nameIndex := 412, descriptorIndex := 404, attributes := #[] }, { accessFlags := 25, nameIndex := 414, descriptorIndex := 404, attributes := #[] }, { accessFlags := 25, nameIndex := 416, descriptorIndex := 404, attributes := #[] }, { accessFlags := 25, nameIndex := 418, descriptorIndex := 404, attributes := #[] }, { accessFlags := 25, nameIndex := 420, descriptorIndex := 404, attributes := #[] }, { accessFlags := 25, nameIndex := 422, descriptorIndex := 404, attributes := #[] }, { accessFlags := 25, nameIndex := 424, descriptorIndex := 404, attributes := #[] }, { accessFlags := 25, nameIndex := 426, descriptorIndex := 404, attributes := #[] }, { accessFlags := 25, nameIndex := 428, descriptorIndex := 404, attributes := #[] }, { accessFlags := 25, nameIndex := 430, descriptorIndex := 404, attributes := #[] }, { accessFlags := 25, nameIndex := 432, descriptorIndex := 404, attributes := #[] }, { accessFlags := 25, nameIndex := 434, descriptorIndex := 404, attributes := #[] }, { accessFlags := 25, nameIndex := 436, descriptorIndex := 404, attributes := #[] }, { accessFlags := 25, nameIndex := 438, descriptorIndex := 404, attributes := #[] }, { accessFlags := 25, nameIndex := 440, descriptorIndex := 404, attributes := #[] }, { accessFlags := 25, nameIndex := 442, descriptorIndex := 404, attributes := #[] }, { accessFlags := 25, nameIndex := 444, descriptorIndex := 404, attributes := #[] }, { accessFlags := 25, nameIndex := 446, descriptorIndex := 404, attributes := #[] }, { accessFlags := 25, nameIndex := 448, descriptorIndex := 404, attributes := #[] }, { accessFlags := 25, nameIndex := 450, descriptorIndex := 404, attributes := #[] }, { accessFlags := 25, nameIndex := 452, descriptorIndex := 404, attributes := #[] }, { accessFlags := 25, nameIndex := 454, descriptorIndex := 404, attributes := #[] }, { accessFlags := 25, nameIndex := 456, descriptorIndex := 404, attributes := #[] }, { accessFlags := 25, nameIndex := 458, descriptorIndex := 404, attributes := #[] }, { accessFlags := 25, nameIndex := 460, descriptorIndex := 404, attributes := #[] }, { accessFlags := 24, nameIndex := 462, descriptorIndex := 392, attributes := #[] }, { accessFlags := 25, nameIndex := 464, descriptorIndex := 404, attributes := #[] }, { accessFlags := 25, nameIndex := 465, descriptorIndex := 404, attributes := #[] }, { accessFlags := 25, nameIndex := 466, descriptorIndex := 404, attributes := #[] }, { accessFlags := 25, nameIndex := 467, descriptorIndex := 404, attributes := #[] }, { accessFlags := 25, nameIndex := 468, descriptorIndex := 404, attributes := #[] }, { accessFlags := 25, nameIndex := 469, descriptorIndex := 404, attributes := #[] }, { accessFlags := 25, nameIndex := 470, descriptorIndex := 404, attributes := #[] }, { accessFlags := 25, nameIndex := 471, descriptorIndex := 404, attributes := #[] }, { accessFlags := 25, nameIndex := 472, descriptorIndex := 404, attributes := #[] }, { accessFlags := 25, nameIndex := 473, descriptorIndex := 404, attributes := #[] }, { accessFlags := 25, nameIndex := 474, descriptorIndex := 404, attributes := #[] }, { accessFlags := 25, nameIndex := 475, descriptorIndex := 404, attributes := #[] }, { accessFlags := 25, nameIndex := 476, descriptorIndex := 404, attributes := #[] }, { accessFlags := 25, nameIndex := 477, descriptorIndex := 404, attributes := #[] }, { accessFlags := 25, nameIndex := 478, descriptorIndex := 404, attributes := #[] }, { accessFlags := 25, nameIndex := 479, descriptorIndex := 404, attributes := #[] }, { accessFlags := 25, nameIndex := 480, descriptorIndex := 404, attributes := #[] }, { accessFlags := 25, nameIndex := 481, descriptorIndex := 404, attributes := #[] }, { accessFlags := 25, nameIndex := 482, descriptorIndex := 404, attributes := #[] }, { accessFlags := 25, nameIndex := 484, descriptorIndex := 404, attributes := #[] }, { accessFlags := 25, nameIndex := 485, descriptorIndex := 404, attributes := #[] }, { accessFlags := 25, nameIndex := 486, descriptorIndex := 404, attributes := #[] }, { accessFlags := 25, nameIndex := 487, descriptorIndex := 404, attributes := #[] }, { accessFlags := 25, nameIndex := 488, descriptorIndex := 404, attributes := #[] }, { accessFlags := 25, nameIndex := 489, descriptorIndex := 22, attributes := #[] }, { accessFlags := 25, nameIndex := 490, descriptorIndex := 22, attributes := #[] }, { accessFlags := 25, nameIndex := 492, descriptorIndex := 22, attributes := #[] }, { accessFlags := 25, nameIndex := 493, descriptorIndex := 22, attributes := #[] }, { accessFlags := 25, nameIndex := 495, descriptorIndex := 22, attributes := #[] }, { accessFlags := 25, nameIndex := 496, descriptorIndex := 22, attributes := #[] }, { accessFlags := 25, nameIndex := 497, descriptorIndex := 392, attributes := #[] }, { accessFlags := 25, nameIndex := 498, descriptorIndex := 392, attributes := #[] }, { accessFlags := 25, nameIndex := 499, descriptorIndex := 392, attributes := #[] }, { accessFlags := 18, nameIndex := 21, descriptorIndex := 22, attributes := #[] }, { accessFlags := 26, nameIndex := 501, descriptorIndex := 502, attributes := #[] }, { accessFlags := 25, nameIndex := 505, descriptorIndex := 392, attributes := #[] }, { accessFlags := 25, nameIndex := 506, descriptorIndex := 392, attributes := #[] }, { accessFlags := 4120, nameIndex := 284, descriptorIndex := 285, attributes := #[] }])
  fields := #[{ name := "MIN_RADIX", type := .int, accessFlags := 25, slot := 0, constantValue := 0 }, { name := "MAX_RADIX", type := .int, accessFlags := 25, slot := 1, constantValue := 0 }, { name := "MIN_VALUE", type := .char, accessFlags := 25, slot := 2, constantValue := 0 }, { name := "MAX_VALUE", type := .char, accessFlags := 25, slot := 3, constantValue := 0 }, { name := "TYPE", type := (.object "java/lang/Class"), accessFlags := 25, slot := 4, constantValue := 0 }, { name := "UNASSIGNED", type := .byte, accessFlags := 25, slot := 5, constantValue := 0 }, { name := "UPPERCASE_LETTER", type := .byte, accessFlags := 25, slot := 6, constantValue := 0 }, { name := "LOWERCASE_LETTER", type := .byte, accessFlags := 25, slot := 7, constantValue := 0 }, { name := "TITLECASE_LETTER", type := .byte, accessFlags := 25, slot := 8, constantValue := 0 }, { name := "MODIFIER_LETTER", type := .byte, accessFlags := 25, slot := 9, constantValue := 0 }, { name := "OTHER_LETTER", type := .byte, accessFlags := 25, slot := 10, constantValue := 0 }, { name := "NON_SPACING_MARK", type := .byte, accessFlags := 25, slot := 11, constantValue := 0 }, { name := "ENCLOSING_MARK", type := .byte, accessFlags := 25, slot := 12, constantValue := 0 }, { name := "COMBINING_SPACING_MARK", type := .byte, accessFlags := 25, slot := 13, constantValue := 0 }, { name := "DECIMAL_DIGIT_NUMBER", type := .byte, accessFlags := 25, slot := 14, constantValue := 0 }, { name := "LETTER_NUMBER", type := .byte, accessFlags := 25, slot := 15, constantValue := 0 }, { name := "OTHER_NUMBER", type := .byte, accessFlags := 25, slot := 16, constantValue := 0 }, { name := "SPACE_SEPARATOR", type := .byte, accessFlags := 25, slot := 17, constantValue := 0 }, { name := "LINE_SEPARATOR", type := .byte, accessFlags := 25, slot := 18, constantValue := 0 }, { name := "PARAGRAPH_SEPARATOR", type := .byte, accessFlags := 25, slot := 19, constantValue := 0 }, { name := "CONTROL", type := .byte, accessFlags := 25, slot := 20, constantValue := 0 }, { name := "FORMAT", type := .byte, accessFlags := 25, slot := 21, constantValue := 0 }, { name := "PRIVATE_USE", type := .byte, accessFlags := 25, slot := 22, constantValue := 0 }, { name := "SURROGATE", type := .byte, accessFlags := 25, slot := 23, constantValue := 0 }, { name := "DASH_PUNCTUATION", type := .byte, accessFlags := 25, slot := 24, constantValue := 0 }, { name := "START_PUNCTUATION", type := .byte, accessFlags := 25, slot := 25, constantValue := 0 }, { name := "END_PUNCTUATION", type := .byte, accessFlags := 25, slot := 26, constantValue := 0 }, { name := "CONNECTOR_PUNCTUATION", type := .byte, accessFlags := 25, slot := 27, constantValue := 0 }, { name := "OTHER_PUNCTUATION", type := .byte, accessFlags := 25, slot := 28, constantValue := 0 }, { name := "MATH_SYMBOL", type := .byte, accessFlags := 25, slot := 29, constantValue := 0 }, { name := "CURRENCY_SYMBOL", type := .byte, accessFlags := 25, slot := 30, constantValue := 0 }, { name := "MODIFIER_SYMBOL", type := .byte, accessFlags := 25, slot := 31, constantValue := 0 }, { name := "OTHER_SYMBOL", type := .byte, accessFlags := 25, slot := 32, constantValue := 0 }, { name := "INITIAL_QUOTE_PUNCTUATION", type := .byte, accessFlags := 25, slot := 33, constantValue := 0 }, { name := "FINAL_QUOTE_PUNCTUATION", type := .byte, accessFlags := 25, slot := 34, constantValue := 0 }, { name := "ERROR", type := .int, accessFlags := 24, slot := 35, constantValue := 0 }, { name := "DIRECTIONALITY_UNDEFINED", type := .byte, accessFlags := 25, slot := 36, constantValue := 0 }, { name := "DIRECTIONALITY_LEFT_TO_RIGHT", type := .byte, accessFlags := 25, slot := 37, constantValue := 0 }, { name := "DIRECTIONALITY_RIGHT_TO_LEFT", type := .byte, accessFlags := 25, slot := 38, constantValue := 0 }, { name := "DIRECTIONALITY_RIGHT_TO_LEFT_ARABIC", type := .byte, accessFlags := 25, slot := 39, constantValue := 0 }, { name := "DIRECTIONALITY_EUROPEAN_NUMBER", type := .byte, accessFlags := 25, slot := 40, constantValue := 0 }, { name := "DIRECTIONALITY_EUROPEAN_NUMBER_SEPARATOR", type := .byte, accessFlags := 25, slot := 41, constantValue := 0 }, { name := "DIRECTIONALITY_EUROPEAN_NUMBER_TERMINATOR", type := .byte, accessFlags := 25, slot := 42, constantValue := 0 }, { name := "DIRECTIONALITY_ARABIC_NUMBER", type := .byte, accessFlags := 25, slot := 43, constantValue := 0 }, { name := "DIRECTIONALITY_COMMON_NUMBER_SEPARATOR", type := .byte, accessFlags := 25, slot := 44, constantValue := 0 }, { name := "DIRECTIONALITY_NONSPACING_MARK", type := .byte, accessFlags := 25, slot := 45, constantValue := 0 }, { name := "DIRECTIONALITY_BOUNDARY_NEUTRAL", type := .byte, accessFlags := 25, slot := 46, constantValue := 0 }, { name := "DIRECTIONALITY_PARAGRAPH_SEPARATOR", type := .byte, accessFlags := 25, slot := 47, constantValue := 0 }, { name := "DIRECTIONALITY_SEGMENT_SEPARATOR", type := .byte, accessFlags := 25, slot := 48, constantValue := 0 }, { name := "DIRECTIONALITY_WHITESPACE", type := .byte, accessFlags := 25, slot := 49, constantValue := 0 }, { name := "DIRECTIONALITY_OTHER_NEUTRALS", type := .byte, accessFlags := 25, slot := 50, constantValue := 0 }, { name := "DIRECTIONALITY_LEFT_TO_RIGHT_EMBEDDING", type := .byte, accessFlags := 25, slot := 51, constantValue := 0 }, { name := "DIRECTIONALITY_LEFT_TO_RIGHT_OVERRIDE", type := .byte, accessFlags := 25, slot := 52, constantValue := 0 }, { name := "DIRECTIONALITY_RIGHT_TO_LEFT_EMBEDDING", type := .byte, accessFlags := 25, slot := 53, constantValue := 0 }, { name := "DIRECTIONALITY_RIGHT_TO_LEFT_OVERRIDE", type := .byte, accessFlags := 25, slot := 54, constantValue := 0 }, { name := "DIRECTIONALITY_POP_DIRECTIONAL_FORMAT", type := .byte, accessFlags := 25, slot := 55, constantValue := 0 }, { name := "DIRECTIONALITY_LEFT_TO_RIGHT_ISOLATE", type := .byte, accessFlags := 25, slot := 56, constantValue := 0 }, { name := "DIRECTIONALITY_RIGHT_TO_LEFT_ISOLATE", type := .byte, accessFlags := 25, slot := 57, constantValue := 0 }, { name := "DIRECTIONALITY_FIRST_STRONG_ISOLATE", type := .byte, accessFlags := 25, slot := 58, constantValue := 0 }, { name := "DIRECTIONALITY_POP_DIRECTIONAL_ISOLATE", type := .byte, accessFlags := 25, slot := 59, constantValue := 0 }, { name := "MIN_HIGH_SURROGATE", type := .char, accessFlags := 25, slot := 60, constantValue := 0 }, { name := "MAX_HIGH_SURROGATE", type := .char, accessFlags := 25, slot := 61, constantValue := 0 }, { name := "MIN_LOW_SURROGATE", type := .char, accessFlags := 25, slot := 62, constantValue := 0 }, { name := "MAX_LOW_SURROGATE", type := .char, accessFlags := 25, slot := 63, constantValue := 0 }, { name := "MIN_SURROGATE", type := .char, accessFlags := 25, slot := 64, constantValue := 0 }, { name := "MAX_SURROGATE", type := .char, accessFlags := 25, slot := 65, constantValue := 0 }, { name := "MIN_SUPPLEMENTARY_CODE_POINT", type := .int, accessFlags := 25, slot := 66, constantValue := 0 }, { name := "MIN_CODE_POINT", type := .int, accessFlags := 25, slot := 67, constantValue := 0 }, { name := "MAX_CODE_POINT", type := .int, accessFlags := 25, slot := 68, constantValue := 0 }, { name := "value", type := .char, accessFlags := 18, slot := 0, constantValue := 0 }, { name := "serialVersionUID", type := .long, accessFlags := 26, slot := 69, constantValue := 0 }, { name := "SIZE", type := .int, accessFlags := 25, slot := 70, constantValue := 0 }, { name := "BYTES", type := .int, accessFlags := 25, slot := 71, constantValue := 0 }, { name := "$assertionsDisabled", type := .boolean, accessFlags := 4120, slot := 72, constantValue := 0 }]
  methods := #[k14m0]
  instanceTypes := #[.char]
  staticTypes := #[.int, .int, .char, .char, (.object "java/lang/Class"), .byte, .byte, .byte, .byte, .byte, .byte, .byte, .byte, .byte, .byte, .byte, .byte, .byte, .byte, .byte, .byte, .byte, .byte, .byte, .byte, .byte, .byte, .byte, .byte, .byte, .byte, .byte, .byte, .byte, .byte, .int, .byte, .byte, .byte, .byte, .byte, .byte, .byte, .byte, .byte, .byte, .byte, .byte, .byte, .byte, .byte, .byte, .byte, .byte, .byte, .byte, .byte, .byte, .byte, .byte, .char, .char, .char, .char, .char, .char, .int, .int, .int, .long, .int, .int, .boolean]
  resolved := Array.replicate 604 none
  statics := none }

def pool15 : Array CpInfo := pool [(2, .class_ 4), (1, u "java/lang/Object"), (0, u "<init>"), (0, u "()V"), (14, .class_ 23), (1, u "java/nio/charset/StandardCharsets"), (0, u "US_ASCII"), (0, u "Ljava/nio/charset/Charset;"), (7, u "ISO_8859_1"), (7, u "UTF_8"), (5, u "UTF_16BE"), (5, u "UTF_16LE"), (5, u "UTF_16")] 8

def k15m0 : Method := { name := "<init>", desc := "()V", sig := { parameters := [], returnType := none }, accessFlags := 2, code := none }
/-- java/nio/charset/StandardCharsets -/
def k15 : Class := { plain "java/nio/charset/StandardCharsets" (some 0) with
  accessFlags := 49
  interfaces := #[]
  cf := some (fileOf pool15 21 #[] #[{ accessFlags := 2, nameIndex := 5, descriptorIndex := 6, attributes := #[] }] 49 2 #[] #[{ accessFlags := 25, nameIndex := 24, descriptorIndex := 25, attributes := #[] }, { accessFlags := 25, nameIndex := 33, descriptorIndex := 25, attributes := #[] }, { accessFlags := 25, nameIndex := 41, descriptorIndex := 25, attributes := #[] }, { accessFlags := 25, nameIndex := 47, descriptorIndex := 25, attributes := #[] }, { accessFlags := 25, nameIndex := 53, descriptorIndex := 25, attributes := #[] }, { accessFlags := 25, nameIndex := 59, descriptorIndex := 25, attributes := #[] }])
  fields := #[{ name := "US_ASCII", type := (.object "java/nio/charset/Charset"), accessFlags := 25, slot := 0, constantValue := 0 }, { name := "ISO_8859_1", type := (.object "java/nio/charset/Charset"), accessFlags := 25, slot := 1, constantValue := 0 }, { name := "UTF_8", type := (.object "java/nio/charset/Charset"), accessFlags := 25, slot := 2, constantValue := 0 }, { name := "UTF_16BE", type := (.object "java/nio/charset/Charset"), accessFlags := 25, slot := 3, constantValue := 0 }, { name := "UTF_16LE", type := (.object "java/nio/charset/Charset"), accessFlags := 25, slot := 4, constantValue := 0 }, { name := "UTF_16", type := (.object "java/nio/charset/Charset"), accessFlags := 25, slot := 5, constantValue := 0 }]
  methods := #[k15m0]
  instanceTypes := #[]
  staticTypes := #[(.object "java/nio/charset/Charset"), (.object "java/nio/charset/Charset"), (.object "java/nio/charset/Charset"), (.object "java/nio/charset/Charset"), (.object "java/nio/charset/Charset"), (.object "java/nio/charset/Charset")]
  resolved := Array.replicate 68 none
  statics := some 2 }

def pool16 : Array CpInfo := pool [(18, .class_ 20), (1, u "java/nio/charset/Charset"), (0, u "cache1"), (0, u "[Ljava/lang/Object;"), (2, u "cache2"), (0, .class_ 27), (0, u "java/lang/Object"), (0, .class_ 29), (0, u "java/nio/charset/Charset$1"), (4, .class_ 36), (1, u "java/nio/charset/Charset$ThreadTrackHolder"), (21, .class_ 59), (0, u "java/nio/charset/Charset$2"), (11, .class_ 73), (1, u "java/nio/charset/Charset$ExtendedProviderHolder"), (22, u "standardProvider"), (0, u "Ljava/nio/charset/spi/CharsetProvider;"), (29, u "name"), (7, .class_ 136), (0, u "java/nio/charset/Charset$3"), (5, u "defaultCharset"), (0, u "Ljava/nio/charset/Charset;"), (14, u "zeroAliases"), (0, u "[Ljava/lang/String;"), (29, u "Ljava/lang/String;"), (2, u "aliases"), (2, u "aliasSet"), (0, u "Ljava/util/Set;"), (82, .class_ 280), (0, u "java/lang/Comparable"), (84, .class_ 366), (0, u "java/nio/charset/Charset$ExtendedProviderHolder$1")] 3

/-- java/nio/charset/Charset -/
def k16 : Class := { plain "java/nio/charset/Charset" (some 0) with
  accessFlags := 1057
  interfaces := #[5]
  cf := some (fileOf pool16 18 #[.nestMembers #[71, 365, 34, 135, 58, 28]] #[] 1057 26 #[279] #[{ accessFlags := 26, nameIndex := 96, descriptorIndex := 97, attributes := #[] }, { accessFlags := 26, nameIndex := 158, descriptorIndex := 159, attributes := #[] }, { accessFlags := 74, nameIndex := 21, descriptorIndex := 22, attributes := #[] }, { accessFlags := 74, nameIndex := 25, descriptorIndex := 22, attributes := #[] }, { accessFlags := 10, nameIndex := 142, descriptorIndex := 143, attributes := #[] }, { accessFlags := 18, nameIndex := 127, descriptorIndex := 189, attributes := #[] }, { accessFlags := 18, nameIndex := 192, descriptorIndex := 159, attributes := #[] }, { accessFlags := 2, nameIndex := 195, descriptorIndex := 196, attributes := #[] }])
  fields := #[{ name := "standardProvider", type := (.object "java/nio/charset/spi/CharsetProvider"), accessFlags := 26, slot := 0, constantValue := 0 }, { name := "zeroAliases", type := (.array (.object "java/lang/String")), accessFlags := 26, slot := 1, constantValue := 0 }, { name := "cache1", type := (.array (.object "java/lang/Object")), accessFlags := 74, slot := 2, constantValue := 0 }, { name := "cache2", type := (.array (.object "java/lang/Object")), accessFlags := 74, slot := 3, constantValue := 0 }, { name := "defaultCharset", type := (.object "java/nio/charset/Charset"), accessFlags := 10, slot := 4, constantValue := 0 }, { name := "name", type := (.object "java/lang/String"), accessFlags := 18, slot := 0, constantValue := 0 }, { name := "aliases", type := (.array (.object "java/lang/String")), accessFlags := 18, slot := 1, constantValue := 0 }, { name := "aliasSet", type := (.object "java/util/Set"), accessFlags := 2, slot := 2, constantValue := 0 }]
  methods := #[]
  instanceTypes := #[(.object "java/lang/String"), (.array (.object "java/lang/String")), (.object "java/util/Set")]
  staticTypes := #[(.object "java/nio/charset/spi/CharsetProvider"), (.array (.object "java/lang/String")), (.array (.object "java/lang/Object")), (.array (.object "java/lang/Object")), (.object "java/nio/charset/Charset")]
  resolved := Array.replicate 370 none
  statics := none }

def pool17 : Array CpInfo := pool [(1, .class_ 2), (0, u "sun/nio/cs/HistoricallyNamedCharset"), (0, .class_ 4), (0, u "java/lang/Object")] 4

/-- sun/nio/cs/HistoricallyNamedCharset -/
def k17 : Class := { plain "sun/nio/cs/HistoricallyNamedCharset" (some 0) with
  accessFlags := 1537
  interfaces := #[]
  cf := some (fileOf pool17 1 #[] #[] 1537 3 #[] #[])
  fields := #[]
  methods := #[]
  instanceTypes := #[]
  staticTypes := #[]
  resolved := Array.replicate 9 none
  statics := none }

def pool18 : Array CpInfo := pool [(2, .class_ 4), (1, u "java/nio/charset/Charset"), (130, .class_ 136), (0, u "sun/nio/cs/Unicode"), (0, .class_ 138), (0, u "sun/nio/cs/HistoricallyNamedCharset")] 15

/-- sun/nio/cs/Unicode -/
def k18 : Class := { plain "sun/nio/cs/Unicode" (some 16) with
  accessFlags := 1056
  interfaces := #[17]
  cf := some (fileOf pool18 135 #[] #[] 1056 2 #[137] #[])
  fields := #[]
  methods := #[]
  instanceTypes := #[(.object "java/lang/String"), (.array (.object "java/lang/String")), (.object "java/util/Set")]
  staticTypes := #[]
  resolved := Array.replicate 154 none
  statics := none }

def pool19 : Array CpInfo := pool [(10, .class_ 12), (1, u "sun/nio/cs/Unicode"), (0, u "<init>"), (3, .class_ 18), (0, u "sun/nio/cs/UTF_8$Decoder"), (3, .class_ 23), (0, u "sun/nio/cs/UTF_8$Encoder"), (15, .class_ 40), (0, u "sun/nio/cs/UTF_8"), (2, u "()V"), (2, u "INSTANCE"), (0, u "Lsun/nio/cs/UTF_8;"), (8, u "JLA"), (0, u "Ljdk/internal/access/JavaLangAccess;")] 26

def k19m0 : Method := { name := "<init>", desc := "()V", sig := { parameters := [], returnType := none }, accessFlags := 1, code := none }
/-- sun/nio/cs/UTF_8 -/
def k19 : Class := { plain "sun/nio/cs/UTF_8" (some 18) with
  accessFlags := 49
  interfaces := #[]
  cf := some (fileOf pool19 39 #[.nestMembers #[22, 17]] #[{ accessFlags := 1, nameIndex := 13, descriptorIndex := 43, attributes := #[] }] 49 10 #[] #[{ accessFlags := 25, nameIndex := 46, descriptorIndex := 47, attributes := #[] }, { accessFlags := 26, nameIndex := 56, descriptorIndex := 57, attributes := #[] }])
  fields := #[{ name := "INSTANCE", type := (.object "sun/nio/cs/UTF_8"), accessFlags := 25, slot := 0, constantValue := 0 }, { name := "JLA", type := (.object "jdk/internal/access/JavaLangAccess"), accessFlags := 26, slot := 1, constantValue := 0 }]
  methods := #[k19m0]
  instanceTypes := #[(.object "java/lang/String"), (.array (.object "java/lang/String")), (.object "java/util/Set")]
  staticTypes := #[(.object "sun/nio/cs/UTF_8"), (.object "jdk/internal/access/JavaLangAccess")]
  resolved := Array.replicate 84 none
  statics := some 3 }

def pool20 : Array CpInfo := pool [(2, .class_ 4), (1, u "java/lang/Object"), (0, u "<init>"), (0, u "()V"), (0, .methodref 8 9), (0, .class_ 10), (0, .nameAndType 11 12), (0, u "java/lang/StringCoding"), (0, u "countPositives"), (0, u "([BII)I"), (11, u "hasNegatives"), (0, u "([BII)Z")] 23

def k20m0 : Method := { name := "<init>", desc := "()V", sig := { parameters := [], returnType := none }, accessFlags := 2, code := none }
def k20c1 : Code := { maxStack := 3, maxLocals := 3, code := jdk_123_method_2_code, exceptionTable := #[], attributes := #[] }
def k20m1 : Method := { name := "hasNegatives", desc := "([BII)Z", sig := { parameters := [(.array .byte), .int, .int], returnType := some .boolean }, accessFlags := 9, code := some k20c1 }
def k20c2 : Code := { maxStack := 2, maxLocals := 5, code := jdk_123_method_3_code, exceptionTable := #[], attributes := #[] }
def k20m2 : Method := { name := "countPositives", desc := "([BII)I", sig := { parameters := [(.array .byte), .int, .int], returnType := some .int }, accessFlags := 9, code := some k20c2 }
/-- java/lang/StringCoding -/
def k20 : Class := { plain "java/lang/StringCoding" (some 0) with
  accessFlags := 32
  interfaces := #[]
  cf := some (fileOf pool20 8 #[] #[{ accessFlags := 2, nameIndex := 5, descriptorIndex := 6, attributes := #[] }, { accessFlags := 9, nameIndex := 24, descriptorIndex := 25, attributes := #[] }, { accessFlags := 9, nameIndex := 11, descriptorIndex := 12, attributes := #[] }] 32 2 #[] #[])
  fields := #[]
  methods := #[k20m0, k20m1, k20m2]
  instanceTypes := #[]
  staticTypes := #[]
  resolved := Array.replicate 49 none
  statics := none }

def pool21 : Array CpInfo := pool [(1, .class_ 2), (0, u "java/lang/Cloneable"), (0, .class_ 4), (0, u "java/lang/Object")] 2

/-- java/lang/Cloneable -/
def k21 : Class := { plain "java/lang/Cloneable" (some 0) with
  accessFlags := 1537
  interfaces := #[]
  cf := some (fileOf pool21 1 #[] #[] 1537 3 #[] #[])
  fields := #[]
  methods := #[]
  instanceTypes := #[]
  staticTypes := #[]
  resolved := Array.replicate 7 none
  statics := none }

def pool22 : Array CpInfo := pool [(9, u "<init>"), (6, .class_ 18), (1, u "java/lang/Object"), (0, u "()V"), (1, .class_ 23), (1, u "jdk/internal/util/ArraysSupport"), (0, u "LOG2_ARRAY_LONG_INDEX_SCALE"), (0, u "I"), (2, u "U"), (0, u "Ljdk/internal/misc/Unsafe;"), (8, u "BIG_ENDIAN"), (0, u "Z"), (8, u "LOG2_BYTE_BIT_SIZE"), (4, u "LOG2_ARRAY_INT_INDEX_SCALE"), (6, .class_ 61), (0, u "[B"), (0, .methodref 21 63), (0, .nameAndType 64 65), (0, u "signedHashCode"), (0, u "(I[BII)I"), (42, u "JLA"), (0, u "Ljdk/internal/access/JavaLangAccess;"), (11, u "LOG2_ARRAY_BOOLEAN_INDEX_SCALE"), (9, u "LOG2_ARRAY_BYTE_INDEX_SCALE"), (5, u "LOG2_ARRAY_CHAR_INDEX_SCALE"), (5, u "LOG2_ARRAY_SHORT_INDEX_SCALE"), (18, u "LOG2_ARRAY_FLOAT_INDEX_SCALE"), (24, u "LOG2_ARRAY_DOUBLE_INDEX_SCALE"), (89, u "T_BOOLEAN"), (2, u "T_CHAR"), (1, u "T_FLOAT"), (1, u "T_DOUBLE"), (1, u "T_BYTE"), (1, u "T_SHORT"), (1, u "T_INT"), (1, u "T_LONG"), (1, u "SOFT_MAX_ARRAY_LENGTH"), (26, u "vectorizedHashCode"), (0, u "(Ljava/lang/Object;IIII)I")] 55

def k22m0 : Method := { name := "<init>", desc := "()V", sig := { parameters := [], returnType := none }, accessFlags := 2, code := none }
def k22c1 : Code := { maxStack := 4, maxLocals := 5, code := jdk_48_method_4_code, exceptionTable := #[], attributes := #[] }
def k22m1 : Method := { name := "vectorizedHashCode", desc := "(Ljava/lang/Object;IIII)I", sig := { parameters := [(.object "java/lang/Object"), .int, .int, .int, .int], returnType := some .int }, accessFlags := 9, code := some k22c1 }
def k22c2 : Code := { maxStack := 3, maxLocals := 6, code := jdk_48_method_5_code, exceptionTable := #[], attributes := #[] }
def k22m2 : Method := { name := "signedHashCode", desc := "(I[BII)I", sig := { parameters := [.int, (.array .byte), .int, .int], returnType := some .int }, accessFlags := 10, code := some k22c2 }
/-- jdk/internal/util/ArraysSupport -/
def k22 : Class := { plain "jdk/internal/util/ArraysSupport" (some 0) with
  accessFlags := 33
  interfaces := #[]
  cf := some (fileOf pool22 21 #[] #[{ accessFlags := 2, nameIndex := 9, descriptorIndex := 19, attributes := #[] }, { accessFlags := 9, nameIndex := 321, descriptorIndex := 322, attributes := #[] }, { accessFlags := 10, nameIndex := 64, descriptorIndex := 65, attributes := #[] }] 33 16 #[] #[{ accessFlags := 24, nameIndex := 28, descriptorIndex := 29, attributes := #[] }, { accessFlags := 26, nameIndex := 38, descriptorIndex := 39, attributes := #[] }, { accessFlags := 25, nameIndex := 121, descriptorIndex := 25, attributes := #[] }, { accessFlags := 25, nameIndex := 131, descriptorIndex := 25, attributes := #[] }, { accessFlags := 25, nameIndex := 137, descriptorIndex := 25, attributes := #[] }, { accessFlags := 25, nameIndex := 143, descriptorIndex := 25, attributes := #[] }, { accessFlags := 25, nameIndex := 53, descriptorIndex := 25, attributes := #[] }, { accessFlags := 25, nameIndex := 24, descriptorIndex := 25, attributes := #[] }, { accessFlags := 25, nameIndex := 162, descriptorIndex := 25, attributes := #[] }, { accessFlags := 25, nameIndex := 187, descriptorIndex := 25, attributes := #[] }, { accessFlags := 26, nameIndex := 48, descriptorIndex := 25, attributes := #[] }, { accessFlags := 25, nameIndex := 277, descriptorIndex := 25, attributes := #[] }, { accessFlags := 25, nameIndex := 280, descriptorIndex := 25, attributes := #[] }, { accessFlags := 25, nameIndex := 282, descriptorIndex := 25, attributes := #[] }, { accessFlags := 25, nameIndex := 284, descriptorIndex := 25, attributes := #[] }, { accessFlags := 25, nameIndex := 286, descriptorIndex := 25, attributes := #[] }, { accessFlags := 25, nameIndex := 288, descriptorIndex := 25, attributes := #[] }, { accessFlags := 25, nameIndex := 290, descriptorIndex := 25, attributes := #[] }, { accessFlags := 25, nameIndex := 292, descriptorIndex := 25, attributes := #[] }, { accessFlags := 26, nameIndex := 108, descriptorIndex := 109, attributes := #[] }, { accessFlags := 25, nameIndex := 294, descriptorIndex := 25, attributes := #[] }])
  fields := #[{ name := "U", type := (.object "jdk/internal/misc/Unsafe"), accessFlags := 24, slot := 0, constantValue := 0 }, { name := "BIG_ENDIAN", type := .boolean, accessFlags := 26, slot := 1, constantValue := 0 }, { name := "LOG2_ARRAY_BOOLEAN_INDEX_SCALE", type := .int, accessFlags := 25, slot := 2, constantValue := 0 }, { name := "LOG2_ARRAY_BYTE_INDEX_SCALE", type := .int, accessFlags := 25, slot := 3, constantValue := 0 }, { name := "LOG2_ARRAY_CHAR_INDEX_SCALE", type := .int, accessFlags := 25, slot := 4, constantValue := 0 }, { name := "LOG2_ARRAY_SHORT_INDEX_SCALE", type := .int, accessFlags := 25, slot := 5, constantValue := 0 }, { name := "LOG2_ARRAY_INT_INDEX_SCALE", type := .int, accessFlags := 25, slot := 6, constantValue := 0 }, { name := "LOG2_ARRAY_LONG_INDEX_SCALE", type := .int, accessFlags := 25, slot := 7, constantValue := 0 }, { name := "LOG2_ARRAY_FLOAT_INDEX_SCALE", type := .int, accessFlags := 25, slot := 8, constantValue := 0 }, { name := "LOG2_ARRAY_DOUBLE_INDEX_SCALE", type := .int, accessFlags := 25, slot := 9, constantValue := 0 }, { name := "LOG2_BYTE_BIT_SIZE", type := .int, accessFlags := 26, slot := 10, constantValue := 0 }, { name := "T_BOOLEAN", type := .int, accessFlags := 25, slot := 11, constantValue := 0 }, { name := "T_CHAR", type := .int, accessFlags := 25, slot := 12, constantValue := 0 }, { name := "T_FLOAT", type := .int, accessFlags := 25, slot := 13, constantValue := 0 }, { name := "T_DOUBLE", type := .int, accessFlags := 25, slot := 14, constantValue := 0 }, { name := "T_BYTE", type := .int, accessFlags := 25, slot := 15, constantValue := 0 }, { name := "T_SHORT", type := .int, accessFlags := 25, slot := 16, constantValue := 0 }, { name := "T_INT", type := .int, accessFlags := 25, slot := 17, constantValue := 0 }, { name := "T_LONG", type := .int, accessFlags := 25, slot := 18, constantValue := 0 }, { name := "JLA", type := (.object "jdk/internal/access/JavaLangAccess"), accessFlags := 26, slot := 19, constantValue := 0 }, { name := "SOFT_MAX_ARRAY_LENGTH", type := .int, accessFlags := 25, slot := 20, constantValue := 0 }]
  methods := #[k22m0, k22m1, k22m2]
  instanceTypes := #[]
  staticTypes := #[(.object "jdk/internal/misc/Unsafe"), .boolean, .int, .int, .int, .int, .int, .int, .int, .int, .int, .int, .int, .int, .int, .int, .int, .int, .int, (.object "jdk/internal/access/JavaLangAccess"), .int]
  resolved := Array.replicate 378 none
  statics := none }

def pool23 : Array CpInfo := pool [(2, .class_ 4), (1, u "java/lang/Object"), (0, u "<init>"), (0, u "()V"), (7, .class_ 16), (1, u "java/util/Arrays"), (57, .class_ 76), (1, u "java/util/Arrays$NaturalOrder"), (36, .class_ 115), (1, u "java/util/Arrays$LegacyMergeSort"), (1, u "Z"), (32, .methodref 151 152), (0, .class_ 153), (0, .nameAndType 154 155), (0, u "java/lang/System"), (0, u "arraycopy"), (0, u "(Ljava/lang/Object;ILjava/lang/Object;II)V"), (146, u "copyOf"), (1, .methodref 305 306), (0, .class_ 307), (0, .nameAndType 308 309), (0, u "java/lang/Math"), (0, u "min"), (0, u "(II)I"), (65, .class_ 376), (0, u "java/util/Arrays$ArrayList"), (68, u "$assertionsDisabled"), (269, u "MIN_ARRAY_SORT_GRAN"), (0, u "I"), (2, u "INSERTIONSORT_THRESHOLD"), (149, u "([BI)[B"), (105, .class_ 976), (0, u "java/util/Arrays$ArrayItr")] 52

def k23m0 : Method := { name := "<init>", desc := "()V", sig := { parameters := [], returnType := none }, accessFlags := 2, code := none }
def k23c1 : Code := { maxStack := 6, maxLocals := 3, code := jdk_65_method_121_code, exceptionTable := #[], attributes := #[] }
def k23m1 : Method := { name := "copyOf", desc := "([BI)[B", sig := { parameters := [(.array .byte), .int], returnType := some (.array .byte) }, accessFlags := 9, code := some k23c1 }
/-- java/util/Arrays -/
def k23 : Class := { plain "java/util/Arrays" (some 0) with
  accessFlags := 49
  interfaces := #[]
  cf := some (fileOf pool23 14 #[.nestMembers #[975, 375, 113, 74]] #[{ accessFlags := 2, nameIndex := 5, descriptorIndex := 6, attributes := #[] }, { accessFlags := 9, nameIndex := 302, descriptorIndex := 869, attributes := #[] }] 49 2 #[] #[{ accessFlags := 26, nameIndex := 715, descriptorIndex := 716, attributes := #[] }, { accessFlags := 26, nameIndex := 719, descriptorIndex := 716, attributes := #[] }, { accessFlags := 4120, nameIndex := 445, descriptorIndex := 117, attributes := #[] }])
  fields := #[{ name := "MIN_ARRAY_SORT_GRAN", type := .int, accessFlags := 26, slot := 0, constantValue := 0 }, { name := "INSERTIONSORT_THRESHOLD", type := .int, accessFlags := 26, slot := 1, constantValue := 0 }, { name := "$assertionsDisabled", type := .boolean, accessFlags := 4120, slot := 2, constantValue := 0 }]
  methods := #[k23m0, k23m1]
  instanceTypes := #[]
  staticTypes := #[.int, .int, .boolean]
  resolved := Array.replicate 1029 none
  statics := none }

def pool24 : Array CpInfo := pool [(1, .class_ 2), (0, u "java/lang/Math"), (1, .class_ 6), (1, u "java/lang/Object"), (0, u "<init>"), (0, u "()V"), (89, .class_ 100), (1, u "java/lang/Math$RandomNumberGeneratorHolder"), (71, u "negativeZeroFloatBits"), (0, u "J"), (2, u "negativeZeroDoubleBits"), (24, u "min"), (43, u "$assertionsDisabled"), (0, u "Z"), (88, u "(II)I"), (2, u "twoToTheDoubleScaleDown"), (0, u "D"), (4, u "twoToTheDoubleScaleUp"), (9, u "E"), (3, u "PI"), (2, u "TAU"), (2, u "DEGREES_TO_RADIANS"), (0, u "RADIANS_TO_DEGREES")] 94

def k24m0 : Method := { name := "<init>", desc := "()V", sig := { parameters := [], returnType := none }, accessFlags := 2, code := none }
def k24c1 : Code := { maxStack := 2, maxLocals := 2, code := jdk_29_method_69_code, exceptionTable := #[], attributes := #[] }
def k24m1 : Method := { name := "min", desc := "(II)I", sig := { parameters := [.int, .int], returnType := some .int }, accessFlags := 9, code := some k24c1 }
/-- java/lang/Math -/
def k24 : Class := { plain "java/lang/Math" (some 0) with
  accessFlags := 49
  interfaces := #[]
  cf := some (fileOf pool24 1 #[.nestMembers #[98]] #[{ accessFlags := 2, nameIndex := 7, descriptorIndex := 8, attributes := #[] }, { accessFlags := 9, nameIndex := 201, descriptorIndex := 335, attributes := #[] }] 49 4 #[] #[{ accessFlags := 25, nameIndex := 354, descriptorIndex := 339, attributes := #[] }, { accessFlags := 25, nameIndex := 358, descriptorIndex := 339, attributes := #[] }, { accessFlags := 25, nameIndex := 361, descriptorIndex := 339, attributes := #[] }, { accessFlags := 26, nameIndex := 364, descriptorIndex := 339, attributes := #[] }, { accessFlags := 26, nameIndex := 365, descriptorIndex := 339, attributes := #[] }, { accessFlags := 26, nameIndex := 172, descriptorIndex := 173, attributes := #[] }, { accessFlags := 26, nameIndex := 176, descriptorIndex := 173, attributes := #[] }, { accessFlags := 8, nameIndex := 344, descriptorIndex := 339, attributes := #[] }, { accessFlags := 8, nameIndex := 338, descriptorIndex := 339, attributes := #[] }, { accessFlags := 4120, nameIndex := 245, descriptorIndex := 246, attributes := #[] }])
  fields := #[{ name := "E", type := .double, accessFlags := 25, slot := 0, constantValue := 0 }, { name := "PI", type := .double, accessFlags := 25, slot := 1, constantValue := 0 }, { name := "TAU", type := .double, accessFlags := 25, slot := 2, constantValue := 0 }, { name := "DEGREES_TO_RADIANS", type := .double, accessFlags := 26, slot := 3, constantValue := 0 }, { name := "RADIANS_TO_DEGREES", type := .double, accessFlags := 26, slot := 4, constantValue := 0 }, { name := "negativeZeroFloatBits", type := .long, accessFlags := 26, slot := 5, constantValue := 0 }, { name := "negativeZeroDoubleBits", type := .long, accessFlags := 26, slot := 6, constantValue := 0 }, { name := "twoToTheDoubleScaleUp", type := .double, accessFlags := 8, slot := 7, constantValue := 0 }, { name := "twoToTheDoubleScaleDown", type := .double, accessFlags := 8, slot := 8, constantValue := 0 }, { name := "$assertionsDisabled", type := .boolean, accessFlags := 4120, slot := 9, constantValue := 0 }]
  methods := #[k24m0, k24m1]
  instanceTypes := #[]
  staticTypes := #[.double, .double, .double, .double, .double, .long, .long, .double, .double, .boolean]
  resolved := Array.replicate 460 none
  statics := none }

def pool25 : Array CpInfo := pool [(2, .class_ 4), (1, u "java/lang/Object"), (0, u "<init>"), (0, u "()V"), (1, .class_ 10), (1, u "java/lang/System"), (0, u "allowSecurityManager"), (0, u "I"), (16, u "cons"), (0, u "Ljava/io/Console;"), (77, .class_ 110), (1, u "java/lang/System$CallersHolder"), (43, u "initialErrStream"), (0, u "Ljava/io/PrintStream;"), (19, u "security"), (0, u "Ljava/lang/SecurityManager;"), (31, .class_ 209), (0, u "java/lang/System$1"), (7, u "props"), (0, u "Ljava/util/Properties;"), (2, u "lineSeparator"), (0, u "Ljava/lang/String;"), (96, .class_ 321), (1, u "java/lang/System$LoggerFinder"), (5, .class_ 328), (0, u "java/lang/System$Logger"), (67, u "err"), (2, u "out"), (91, u "notSupportedJnuEncoding"), (15, u "in"), (17, u "initialIn"), (0, u "Ljava/io/InputStream;"), (35, u "bootLayer"), (0, u "Ljava/lang/ModuleLayer;"), (99, .class_ 664), (0, u "java/lang/System$2"), (9, u "NEVER"), (2, u "MAYBE"), (49, u "arraycopy"), (0, u "(Ljava/lang/Object;ILjava/lang/Object;II)V"), (72, .class_ 802), (0, u "java/lang/System$Logger$Level")] 31

def k25m0 : Method := { name := "<init>", desc := "()V", sig := { parameters := [], returnType := none }, accessFlags := 2, code := none }
def k25m1 : Method := { name := "arraycopy", desc := "(Ljava/lang/Object;ILjava/lang/Object;II)V", sig := { parameters := [(.object "java/lang/Object"), .int, (.object "java/lang/Object"), .int, .int], returnType := none }, accessFlags := 265, code := none }
/-- java/lang/System -/
def k25 : Class := { plain "java/lang/System" (some 0) with
  accessFlags := 49
  interfaces := #[]
  cf := some (fileOf pool25 8 #[.nestMembers #[319, 327, 801, 108, 663, 208]] #[{ accessFlags := 2, nameIndex := 5, descriptorIndex := 6, attributes := #[] }, { accessFlags := 265, nameIndex := 727, descriptorIndex := 728, attributes := #[] }] 49 2 #[] #[{ accessFlags := 25, nameIndex := 507, descriptorIndex := 526, attributes := #[] }, { accessFlags := 25, nameIndex := 399, descriptorIndex := 155, attributes := #[] }, { accessFlags := 25, nameIndex := 396, descriptorIndex := 155, attributes := #[] }, { accessFlags := 10, nameIndex := 525, descriptorIndex := 526, attributes := #[] }, { accessFlags := 26, nameIndex := 674, descriptorIndex := 12, attributes := #[] }, { accessFlags := 26, nameIndex := 677, descriptorIndex := 12, attributes := #[] }, { accessFlags := 10, nameIndex := 11, descriptorIndex := 12, attributes := #[] }, { accessFlags := 74, nameIndex := 175, descriptorIndex := 176, attributes := #[] }, { accessFlags := 10, nameIndex := 491, descriptorIndex := 222, attributes := #[] }, { accessFlags := 74, nameIndex := 29, descriptorIndex := 30, attributes := #[] }, { accessFlags := 74, nameIndex := 154, descriptorIndex := 155, attributes := #[] }, { accessFlags := 10, nameIndex := 217, descriptorIndex := 218, attributes := #[] }, { accessFlags := 10, nameIndex := 221, descriptorIndex := 222, attributes := #[] }, { accessFlags := 8, nameIndex := 562, descriptorIndex := 563, attributes := #[] }])
  fields := #[{ name := "in", type := (.object "java/io/InputStream"), accessFlags := 25, slot := 0, constantValue := 0 }, { name := "out", type := (.object "java/io/PrintStream"), accessFlags := 25, slot := 1, constantValue := 0 }, { name := "err", type := (.object "java/io/PrintStream"), accessFlags := 25, slot := 2, constantValue := 0 }, { name := "initialIn", type := (.object "java/io/InputStream"), accessFlags := 10, slot := 3, constantValue := 0 }, { name := "NEVER", type := .int, accessFlags := 26, slot := 4, constantValue := 0 }, { name := "MAYBE", type := .int, accessFlags := 26, slot := 5, constantValue := 0 }, { name := "allowSecurityManager", type := .int, accessFlags := 10, slot := 6, constantValue := 0 }, { name := "security", type := (.object "java/lang/SecurityManager"), accessFlags := 74, slot := 7, constantValue := 0 }, { name := "notSupportedJnuEncoding", type := (.object "java/lang/String"), accessFlags := 10, slot := 8, constantValue := 0 }, { name := "cons", type := (.object "java/io/Console"), accessFlags := 74, slot := 9, constantValue := 0 }, { name := "initialErrStream", type := (.object "java/io/PrintStream"), accessFlags := 74, slot := 10, constantValue := 0 }, { name := "props", type := (.object "java/util/Properties"), accessFlags := 10, slot := 11, constantValue := 0 }, { name := "lineSeparator", type := (.object "java/lang/String"), accessFlags := 10, slot := 12, constantValue := 0 }, { name := "bootLayer", type := (.object "java/lang/ModuleLayer"), accessFlags := 8, slot := 13, constantValue := 0 }]
  methods := #[k25m0, k25m1]
  instanceTypes := #[]
  staticTypes := #[(.object "java/io/InputStream"), (.object "java/io/PrintStream"), (.object "java/io/PrintStream"), (.object "java/io/InputStream"), .int, .int, .int, (.object "java/lang/SecurityManager"), (.object "java/lang/String"), (.object "java/io/Console"), (.object "java/io/PrintStream"), (.object "java/util/Properties"), (.object "java/lang/String"), (.object "java/lang/ModuleLayer")]
  resolved := Array.replicate 834 none
  statics := none }

/-- the primitive byte -/
def k26 : Class := { plain "byte" none with kind := .primitive 'B', accessFlags := 0x411 }
/-- [B -/
def k27 : Class := { plain "[B" (some 0) with kind := .array 26 .byte, interfaces := #[21, 4], accessFlags := 1041 }

/-- the primitive char -/
def k28 : Class := { plain "char" none with kind := .primitive 'C', accessFlags := 0x411 }
/-- [C -/
def k29 : Class := { plain "[C" (some 0) with kind := .array 28 .char, interfaces := #[21, 4], accessFlags := 1041 }

/-- the primitive int -/
def k30 : Class := { plain "int" none with kind := .primitive 'I', accessFlags := 0x411 }
/-- [I -/
def k31 : Class := { plain "[I" (some 0) with kind := .array 30 .int, interfaces := #[21, 4], accessFlags := 1041 }

def heap : Heap := #[{ cls := 9, slots := #[.long 0, .int 1, .null, .int 0, .null, .int 0, .int 0], vm := .statics 9 },
  { cls := 13, slots := #[.null, .null, .null], vm := .statics 13 },
  { cls := 15, slots := #[.null, .null, .ref 4, .null, .null, .null], vm := .statics 15 },
  { cls := 19, slots := #[.ref 4, .null], vm := .statics 19 },
  { cls := 19, slots := #[.null, .null, .null], vm := .none }]
def classes : Array Class := #[k0, k1, k2, k3, k4, k5, k6, k7, k8, k9, k10, k11, k12, k13, k14, k15, k16, k17, k18, k19, k20, k21, k22, k23, k24, k25, k26, k27, k28, k29, k30, k31]
def interned : List (Array UInt16 × Addr) := []
def slotsUsed : Nat := 21
def theMethod : MethodId := ⟨1, 3⟩
def args0 : Array Value := #[.int 5, .int 6, .int 7, .int 9, .int 3]
def aboutOver (below : List Frame) : State where
  vm := { classes := classes, interned := interned.toArray }
  heap := heap
  slotsUsed := slotsUsed
  threads := #[{ frames := .invoking theMethod args0 :: below }]
def below0 : List Frame := [.native { method := ⟨0, 0⟩, args := #[] }]
def about1 : State := aboutOver below0
def p0 : Program := .bare "" "" ""
def e0 : Env := launch0.env 0 0 0
theorem w_frames : about1.frames = Frame.invoking theMethod args0 :: below0 := rfl
set_option maxRecDepth 65536 in
theorem w_args : argsFit about1.vm theMethod args0 = true := by decide +kernel
set_option maxRecDepth 65536 in
theorem w_heap : heapFits about1 = true := by decide +kernel
set_option maxRecDepth 65536 in
theorem w_runnable : about1.curStatus? = some .runnable := by decide +kernel
set_option maxRecDepth 65536 in
theorem w_alone : about1.alone = true := by decide +kernel
set_option maxRecDepth 65536 in
theorem w_named : about1.methodNamed? x = some theMethod := by decide +kernel
set_option maxRecDepth 65536 in
theorem w_hears : about1.hears theMethod below0 = true := by decide +kernel
set_option maxRecDepth 65536 in
theorem w_ripe : about1.ripe theMethod args0 below0 = true := by decide +kernel
theorem w_running : about1.status = .running := rfl
set_option maxRecDepth 65536 in
theorem w_room : about1.hasRoom e0.platform room_1 = true :=
  launch0.hasRoom_least _ room_1 (by decide +kernel) (by decide +kernel) (by decide +kernel) (by decide +kernel) (by decide +kernel) (by decide +kernel)
theorem allAtoms_all (ts : List Jvm.Cond) (a : Array Jvm.Value) (st : Jvm.State) : (allAtoms ts).before a st = ts.all (fun c => c.before a st) := by
  induction ts with
  | nil => rfl
  | cons c t ih =>
    show (Jvm.Cond.and c (allAtoms t)).before a st = _
    rw [Jvm.Cond.before_and, ih, List.all_cons]
def words1 : List Jvm.Cond := Jvm.Cond.code x code maxLocals ret :: tables_1
/-- a 'code' word, met by the world's own term for the bytes: nothing is compared byte by byte -/
theorem code_word {y : MethodName} {bytes : ByteArray} {mx : Nat} {rt : Option FieldType} {a : Array Value} {s : State} {m : MethodId} {meth : Method} {c : Code} (h1 : s.methodNamed? y = some m) (h2 : s.vm.method? m = some meth) (h3 : meth.code = some c) (h4 : c.code = bytes)
    (h5 : (c.maxLocals == mx && c.exceptionTable.isEmpty && decide (c.maxStack ≤ mostOperands) && decide (meth.sig.returnType = rt) && !meth.locks && decide (parseMethodDescriptor y.desc = some meth.sig)) = true) : (Jvm.Cond.code y bytes mx rt).before a s = true := by
  simp only [Bool.and_eq_true, beq_iff_eq, Bool.not_eq_true', decide_eq_true_eq] at h5
  obtain ⟨⟨⟨⟨⟨g1, g2⟩, g3⟩, g4⟩, g5⟩, g6⟩ := h5
  simp [Cond.before, Cond.holds, Cond.value, h1, h2, h3, h4, g1, g2, g3, g4, g5, g6]
def isCode : Jvm.Cond → Bool
  | .code _ _ _ _ => true
  | _ => false
theorem all_split {L : List Jvm.Cond} {P : Jvm.Cond → Bool} (h1 : L.all (fun c => isCode c || P c) = true) (h2 : ∀ c ∈ L.filter isCode, P c = true) : L.all P = true := by
  refine List.all_eq_true.mpr fun c hc => ?_
  have h := List.all_eq_true.mp h1 c hc
  rcases Bool.eq_false_or_eq_true (isCode c) with hi | hi
  · exact h2 c (List.mem_filter.mpr ⟨hc, hi⟩)
  · simpa [hi] using h
set_option maxRecDepth 65536 in
theorem w_c0 : (Jvm.Cond.code x code maxLocals ret).before args0 about1 = true := code_word (m := ⟨1, 3⟩) (meth := k1m3) (c := k1c3) (by decide +kernel) rfl rfl rfl (by decide +kernel)
set_option maxRecDepth 65536 in
theorem w_c1 : (Jvm.Cond.code ({ cls := "com/example/ticks_into_totals/ticksintototals/CounterNameHashCodePinLaw", name := "tok", desc := "(I)C" } : Jvm.MethodName) method_2_code (2 : Nat) (Option.some Jvm.ClassFile.FieldType.char)).before args0 about1 = true := code_word (m := ⟨1, 1⟩) (meth := k1m1) (c := k1c1) (by decide +kernel) rfl rfl rfl (by decide +kernel)
set_option maxRecDepth 65536 in
theorem w_c2 : (Jvm.Cond.code ({ cls := "com/example/ticks_into_totals/ticksintototals/CounterNameHashCodePinLaw", name := "idc", desc := "(I)C" } : Jvm.MethodName) method_3_code (2 : Nat) (Option.some Jvm.ClassFile.FieldType.char)).before args0 about1 = true := code_word (m := ⟨1, 2⟩) (meth := k1m2) (c := k1c2) (by decide +kernel) rfl rfl rfl (by decide +kernel)
set_option maxRecDepth 65536 in
theorem w_c3 : (Jvm.Cond.code ({ cls := "java/lang/String", name := "<init>", desc := "([C)V" } : Jvm.MethodName) jdk_42_method_3_code (2 : Nat) (Option.none : Option Jvm.ClassFile.FieldType)).before args0 about1 = true := code_word (m := ⟨9, 1⟩) (meth := k9m1) (c := k9c1) (by decide +kernel) rfl rfl rfl (by decide +kernel)
set_option maxRecDepth 65536 in
theorem w_c4 : (Jvm.Cond.code ({ cls := "java/lang/String", name := "<init>", desc := "([CIILjava/lang/Void;)V" } : Jvm.MethodName) jdk_42_method_149_code (6 : Nat) (Option.none : Option Jvm.ClassFile.FieldType)).before args0 about1 = true := code_word (m := ⟨9, 11⟩) (meth := k9m11) (c := k9c11) (by decide +kernel) rfl rfl rfl (by decide +kernel)
set_option maxRecDepth 65536 in
theorem w_c5 : (Jvm.Cond.code ({ cls := "java/lang/Object", name := "<init>", desc := "()V" } : Jvm.MethodName) object_method_1_code (1 : Nat) (Option.none : Option Jvm.ClassFile.FieldType)).before args0 about1 = true := code_word (m := ⟨0, 0⟩) (meth := k0m0) (c := k0c0) (by decide +kernel) rfl rfl rfl (by decide +kernel)
set_option maxRecDepth 65536 in
theorem w_c6 : (Jvm.Cond.code ({ cls := "java/lang/StringUTF16", name := "compress", desc := "([CII)[B" } : Jvm.MethodName) jdk_52_method_16_code (6 : Nat) (Option.some (Jvm.ClassFile.FieldType.array Jvm.ClassFile.FieldType.byte))).before args0 about1 = true := code_word (m := ⟨10, 4⟩) (meth := k10m4) (c := k10c4) (by decide +kernel) rfl rfl rfl (by decide +kernel)
set_option maxRecDepth 65536 in
theorem w_c7 : (Jvm.Cond.code ({ cls := "java/lang/StringUTF16", name := "compress", desc := "([CI[BII)I" } : Jvm.MethodName) jdk_52_method_21_code (7 : Nat) (Option.some Jvm.ClassFile.FieldType.int)).before args0 about1 = true := code_word (m := ⟨10, 5⟩) (meth := k10m5) (c := k10c5) (by decide +kernel) rfl rfl rfl (by decide +kernel)
set_option maxRecDepth 65536 in
theorem w_c8 : (Jvm.Cond.code ({ cls := "java/lang/StringUTF16", name := "coderFromArrayLen", desc := "([BI)B" } : Jvm.MethodName) jdk_52_method_15_code (2 : Nat) (Option.some Jvm.ClassFile.FieldType.byte)).before args0 about1 = true := code_word (m := ⟨10, 3⟩) (meth := k10m3) (c := k10c3) (by decide +kernel) rfl rfl rfl (by decide +kernel)
set_option maxRecDepth 65536 in
theorem w_c9 : (Jvm.Cond.code ({ cls := "com/example/ticks_into_totals/ticksintototals/CounterName", name := "<init>", desc := "(Ljava/lang/String;Ljava/lang/String;Ljava/lang/String;)V" } : Jvm.MethodName) prog_3_method_1_code (4 : Nat) (Option.none : Option Jvm.ClassFile.FieldType)).before args0 about1 = true := code_word (m := ⟨3, 0⟩) (meth := k3m0) (c := k3c0) (by decide +kernel) rfl rfl rfl (by decide +kernel)
set_option maxRecDepth 65536 in
theorem w_c10 : (Jvm.Cond.code ({ cls := "java/lang/Record", name := "<init>", desc := "()V" } : Jvm.MethodName) jdk_30_method_1_code (1 : Nat) (Option.none : Option Jvm.ClassFile.FieldType)).before args0 about1 = true := code_word (m := ⟨2, 0⟩) (meth := k2m0) (c := k2c0) (by decide +kernel) rfl rfl rfl (by decide +kernel)
set_option maxRecDepth 65536 in
theorem w_c11 : (Jvm.Cond.code ({ cls := "com/example/ticks_into_totals/ticksintototals/CounterName", name := "checkToken", desc := "(Ljava/lang/String;Ljava/lang/String;)Ljava/lang/String;" } : Jvm.MethodName) prog_3_method_4_code (2 : Nat) (Option.some (Jvm.ClassFile.FieldType.object "java/lang/String"))).before args0 about1 = true := code_word (m := ⟨3, 3⟩) (meth := k3m3) (c := k3c3) (by decide +kernel) rfl rfl rfl (by decide +kernel)
set_option maxRecDepth 65536 in
theorem w_c12 : (Jvm.Cond.code ({ cls := "java/util/Objects", name := "requireNonNull", desc := "(Ljava/lang/Object;Ljava/lang/String;)Ljava/lang/Object;" } : Jvm.MethodName) jdk_31_method_11_code (2 : Nat) (Option.some (Jvm.ClassFile.FieldType.object "java/lang/Object"))).before args0 about1 = true := code_word (m := ⟨11, 1⟩) (meth := k11m1) (c := k11c1) (by decide +kernel) rfl rfl rfl (by decide +kernel)
set_option maxRecDepth 65536 in
theorem w_c13 : (Jvm.Cond.code ({ cls := "java/lang/String", name := "isEmpty", desc := "()Z" } : Jvm.MethodName) jdk_42_method_55_code (1 : Nat) (Option.some Jvm.ClassFile.FieldType.boolean)).before args0 about1 = true := code_word (m := ⟨9, 5⟩) (meth := k9m5) (c := k9c5) (by decide +kernel) rfl rfl rfl (by decide +kernel)
set_option maxRecDepth 65536 in
theorem w_c14 : (Jvm.Cond.code ({ cls := "java/lang/String", name := "length", desc := "()I" } : Jvm.MethodName) jdk_42_method_54_code (1 : Nat) (Option.some Jvm.ClassFile.FieldType.int)).before args0 about1 = true := code_word (m := ⟨9, 4⟩) (meth := k9m4) (c := k9c4) (by decide +kernel) rfl rfl rfl (by decide +kernel)
set_option maxRecDepth 65536 in
theorem w_c15 : (Jvm.Cond.code ({ cls := "java/lang/String", name := "coder", desc := "()B" } : Jvm.MethodName) jdk_42_method_152_code (1 : Nat) (Option.some Jvm.ClassFile.FieldType.byte)).before args0 about1 = true := code_word (m := ⟨9, 12⟩) (meth := k9m12) (c := k9c12) (by decide +kernel) rfl rfl rfl (by decide +kernel)
set_option maxRecDepth 65536 in
theorem w_c16 : (Jvm.Cond.code ({ cls := "com/example/ticks_into_totals/ticksintototals/CounterName", name := "isToken", desc := "(Ljava/lang/String;)Z" } : Jvm.MethodName) prog_3_method_5_code (2 : Nat) (Option.some Jvm.ClassFile.FieldType.boolean)).before args0 about1 = true := code_word (m := ⟨3, 4⟩) (meth := k3m4) (c := k3c4) (by decide +kernel) rfl rfl rfl (by decide +kernel)
set_option maxRecDepth 65536 in
theorem w_c17 : (Jvm.Cond.code ({ cls := "java/lang/String", name := "charAt", desc := "(I)C" } : Jvm.MethodName) jdk_42_method_56_code (2 : Nat) (Option.some Jvm.ClassFile.FieldType.char)).before args0 about1 = true := code_word (m := ⟨9, 6⟩) (meth := k9m6) (c := k9c6) (by decide +kernel) rfl rfl rfl (by decide +kernel)
set_option maxRecDepth 65536 in
theorem w_c18 : (Jvm.Cond.code ({ cls := "java/lang/String", name := "isLatin1", desc := "()Z" } : Jvm.MethodName) jdk_42_method_154_code (1 : Nat) (Option.some Jvm.ClassFile.FieldType.boolean)).before args0 about1 = true := code_word (m := ⟨9, 13⟩) (meth := k9m13) (c := k9c13) (by decide +kernel) rfl rfl rfl (by decide +kernel)
set_option maxRecDepth 65536 in
theorem w_c19 : (Jvm.Cond.code ({ cls := "java/lang/StringLatin1", name := "charAt", desc := "([BI)C" } : Jvm.MethodName) jdk_43_method_2_code (2 : Nat) (Option.some Jvm.ClassFile.FieldType.char)).before args0 about1 = true := code_word (m := ⟨12, 1⟩) (meth := k12m1) (c := k12c1) (by decide +kernel) rfl rfl rfl (by decide +kernel)
set_option maxRecDepth 65536 in
theorem w_c20 : (Jvm.Cond.code ({ cls := "java/lang/String", name := "checkIndex", desc := "(II)V" } : Jvm.MethodName) jdk_42_method_155_code (2 : Nat) (Option.none : Option Jvm.ClassFile.FieldType)).before args0 about1 = true := code_word (m := ⟨9, 14⟩) (meth := k9m14) (c := k9c14) (by decide +kernel) rfl rfl rfl (by decide +kernel)
set_option maxRecDepth 65536 in
theorem w_c21 : (Jvm.Cond.code ({ cls := "jdk/internal/util/Preconditions", name := "checkIndex", desc := "(IILjava/util/function/BiFunction;)I" } : Jvm.MethodName) jdk_41_method_11_code (3 : Nat) (Option.some Jvm.ClassFile.FieldType.int)).before args0 about1 = true := code_word (m := ⟨13, 1⟩) (meth := k13m1) (c := k13c1) (by decide +kernel) rfl rfl rfl (by decide +kernel)
set_option maxRecDepth 65536 in
theorem w_c22 : (Jvm.Cond.code ({ cls := "com/example/ticks_into_totals/ticksintototals/CounterName", name := "isTokenChar", desc := "(C)Z" } : Jvm.MethodName) prog_3_method_6_code (1 : Nat) (Option.some Jvm.ClassFile.FieldType.boolean)).before args0 about1 = true := code_word (m := ⟨3, 5⟩) (meth := k3m5) (c := k3c5) (by decide +kernel) rfl rfl rfl (by decide +kernel)
set_option maxRecDepth 65536 in
theorem w_c23 : (Jvm.Cond.code ({ cls := "com/example/ticks_into_totals/ticksintototals/CounterName", name := "checkId", desc := "(Ljava/lang/String;)Ljava/lang/String;" } : Jvm.MethodName) prog_3_method_7_code (2 : Nat) (Option.some (Jvm.ClassFile.FieldType.object "java/lang/String"))).before args0 about1 = true := code_word (m := ⟨3, 6⟩) (meth := k3m6) (c := k3c6) (by decide +kernel) rfl rfl rfl (by decide +kernel)
set_option maxRecDepth 65536 in
theorem w_c24 : (Jvm.Cond.code ({ cls := "com/example/ticks_into_totals/ticksintototals/CounterName", name := "pairsEverySurrogate", desc := "(Ljava/lang/String;)Z" } : Jvm.MethodName) prog_3_method_8_code (3 : Nat) (Option.some Jvm.ClassFile.FieldType.boolean)).before args0 about1 = true := code_word (m := ⟨3, 7⟩) (meth := k3m7) (c := k3c7) (by decide +kernel) rfl rfl rfl (by decide +kernel)
set_option maxRecDepth 65536 in
theorem w_c25 : (Jvm.Cond.code ({ cls := "java/lang/String", name := "codePointAt", desc := "(I)I" } : Jvm.MethodName) jdk_42_method_57_code (3 : Nat) (Option.some Jvm.ClassFile.FieldType.int)).before args0 about1 = true := code_word (m := ⟨9, 7⟩) (meth := k9m7) (c := k9c7) (by decide +kernel) rfl rfl rfl (by decide +kernel)
set_option maxRecDepth 65536 in
theorem w_c26 : (Jvm.Cond.code ({ cls := "java/lang/Character", name := "charCount", desc := "(I)I" } : Jvm.MethodName) jdk_89_method_18_code (1 : Nat) (Option.some Jvm.ClassFile.FieldType.int)).before args0 about1 = true := code_word (m := ⟨14, 0⟩) (meth := k14m0) (c := k14c0) (by decide +kernel) rfl rfl rfl (by decide +kernel)
set_option maxRecDepth 65536 in
theorem w_c27 : (Jvm.Cond.code ({ cls := "java/lang/String", name := "getBytes", desc := "(Ljava/nio/charset/Charset;)[B" } : Jvm.MethodName) jdk_42_method_64_code (2 : Nat) (Option.some (Jvm.ClassFile.FieldType.array Jvm.ClassFile.FieldType.byte))).before args0 about1 = true := code_word (m := ⟨9, 8⟩) (meth := k9m8) (c := k9c8) (by decide +kernel) rfl rfl rfl (by decide +kernel)
set_option maxRecDepth 65536 in
theorem w_c28 : (Jvm.Cond.code ({ cls := "java/lang/String", name := "encode", desc := "(Ljava/nio/charset/Charset;B[B)[B" } : Jvm.MethodName) jdk_42_method_18_code (3 : Nat) (Option.some (Jvm.ClassFile.FieldType.array Jvm.ClassFile.FieldType.byte))).before args0 about1 = true := code_word (m := ⟨9, 2⟩) (meth := k9m2) (c := k9c2) (by decide +kernel) rfl rfl rfl (by decide +kernel)
set_option maxRecDepth 65536 in
theorem w_c29 : (Jvm.Cond.code ({ cls := "java/lang/String", name := "encodeUTF8", desc := "(B[BZ)[B" } : Jvm.MethodName) jdk_42_method_46_code (9 : Nat) (Option.some (Jvm.ClassFile.FieldType.array Jvm.ClassFile.FieldType.byte))).before args0 about1 = true := code_word (m := ⟨9, 3⟩) (meth := k9m3) (c := k9c3) (by decide +kernel) rfl rfl rfl (by decide +kernel)
set_option maxRecDepth 65536 in
theorem w_c30 : (Jvm.Cond.code ({ cls := "java/lang/StringCoding", name := "hasNegatives", desc := "([BII)Z" } : Jvm.MethodName) jdk_123_method_2_code (3 : Nat) (Option.some Jvm.ClassFile.FieldType.boolean)).before args0 about1 = true := code_word (m := ⟨20, 1⟩) (meth := k20m1) (c := k20c1) (by decide +kernel) rfl rfl rfl (by decide +kernel)
set_option maxRecDepth 65536 in
theorem w_c31 : (Jvm.Cond.code ({ cls := "java/lang/StringCoding", name := "countPositives", desc := "([BII)I" } : Jvm.MethodName) jdk_123_method_3_code (5 : Nat) (Option.some Jvm.ClassFile.FieldType.int)).before args0 about1 = true := code_word (m := ⟨20, 2⟩) (meth := k20m2) (c := k20c2) (by decide +kernel) rfl rfl rfl (by decide +kernel)
set_option maxRecDepth 65536 in
theorem w_c32 : (Jvm.Cond.code ({ cls := "com/example/ticks_into_totals/ticksintototals/CounterName", name := "hasControlCharacter", desc := "(Ljava/lang/String;)Z" } : Jvm.MethodName) prog_3_method_9_code (3 : Nat) (Option.some Jvm.ClassFile.FieldType.boolean)).before args0 about1 = true := code_word (m := ⟨3, 8⟩) (meth := k3m8) (c := k3c8) (by decide +kernel) rfl rfl rfl (by decide +kernel)
set_option maxRecDepth 65536 in
theorem w_c33 : (Jvm.Cond.code ({ cls := "com/example/ticks_into_totals/ticksintototals/CounterName", name := "equals", desc := "(Ljava/lang/Object;)Z" } : Jvm.MethodName) prog_3_method_2_code (3 : Nat) (Option.some Jvm.ClassFile.FieldType.boolean)).before args0 about1 = true := code_word (m := ⟨3, 1⟩) (meth := k3m1) (c := k3c1) (by decide +kernel) rfl rfl rfl (by decide +kernel)
set_option maxRecDepth 65536 in
theorem w_c34 : (Jvm.Cond.code ({ cls := "java/lang/String", name := "equals", desc := "(Ljava/lang/Object;)Z" } : Jvm.MethodName) jdk_42_method_66_code (3 : Nat) (Option.some Jvm.ClassFile.FieldType.boolean)).before args0 about1 = true := code_word (m := ⟨9, 9⟩) (meth := k9m9) (c := k9c9) (by decide +kernel) rfl rfl rfl (by decide +kernel)
set_option maxRecDepth 65536 in
theorem w_c35 : (Jvm.Cond.code ({ cls := "java/lang/StringLatin1", name := "equals", desc := "([B[B)Z" } : Jvm.MethodName) jdk_43_method_13_code (3 : Nat) (Option.some Jvm.ClassFile.FieldType.boolean)).before args0 about1 = true := code_word (m := ⟨12, 2⟩) (meth := k12m2) (c := k12c2) (by decide +kernel) rfl rfl rfl (by decide +kernel)
set_option maxRecDepth 65536 in
theorem w_c36 : (Jvm.Cond.code ({ cls := "com/example/ticks_into_totals/ticksintototals/CounterName", name := "hashCode", desc := "()I" } : Jvm.MethodName) prog_3_method_3_code (1 : Nat) (Option.some Jvm.ClassFile.FieldType.int)).before args0 about1 = true := code_word (m := ⟨3, 2⟩) (meth := k3m2) (c := k3c2) (by decide +kernel) rfl rfl rfl (by decide +kernel)
set_option maxRecDepth 65536 in
theorem w_c37 : (Jvm.Cond.code ({ cls := "java/lang/String", name := "hashCode", desc := "()I" } : Jvm.MethodName) jdk_42_method_78_code (2 : Nat) (Option.some Jvm.ClassFile.FieldType.int)).before args0 about1 = true := code_word (m := ⟨9, 10⟩) (meth := k9m10) (c := k9c10) (by decide +kernel) rfl rfl rfl (by decide +kernel)
set_option maxRecDepth 65536 in
theorem w_c38 : (Jvm.Cond.code ({ cls := "java/lang/StringLatin1", name := "hashCode", desc := "([B)I" } : Jvm.MethodName) jdk_43_method_21_code (1 : Nat) (Option.some Jvm.ClassFile.FieldType.int)).before args0 about1 = true := code_word (m := ⟨12, 3⟩) (meth := k12m3) (c := k12c3) (by decide +kernel) rfl rfl rfl (by decide +kernel)
set_option maxRecDepth 65536 in
theorem w_c39 : (Jvm.Cond.code ({ cls := "jdk/internal/util/ArraysSupport", name := "vectorizedHashCode", desc := "(Ljava/lang/Object;IIII)I" } : Jvm.MethodName) jdk_48_method_4_code (5 : Nat) (Option.some Jvm.ClassFile.FieldType.int)).before args0 about1 = true := code_word (m := ⟨22, 1⟩) (meth := k22m1) (c := k22c1) (by decide +kernel) rfl rfl rfl (by decide +kernel)
set_option maxRecDepth 65536 in
theorem w_c40 : (Jvm.Cond.code ({ cls := "jdk/internal/util/ArraysSupport", name := "signedHashCode", desc := "(I[BII)I" } : Jvm.MethodName) jdk_48_method_5_code (6 : Nat) (Option.some Jvm.ClassFile.FieldType.int)).before args0 about1 = true := code_word (m := ⟨22, 2⟩) (meth := k22m2) (c := k22c2) (by decide +kernel) rfl rfl rfl (by decide +kernel)
set_option maxRecDepth 65536 in
theorem w_c41 : (Jvm.Cond.code ({ cls := "java/lang/StringUTF16", name := "newBytesFor", desc := "(I)[B" } : Jvm.MethodName) jdk_52_method_2_code (1 : Nat) (Option.some (Jvm.ClassFile.FieldType.array Jvm.ClassFile.FieldType.byte))).before args0 about1 = true := code_word (m := ⟨10, 1⟩) (meth := k10m1) (c := k10c1) (by decide +kernel) rfl rfl rfl (by decide +kernel)
set_option maxRecDepth 65536 in
theorem w_c42 : (Jvm.Cond.code ({ cls := "java/lang/StringUTF16", name := "newBytesLength", desc := "(I)I" } : Jvm.MethodName) jdk_52_method_3_code (1 : Nat) (Option.some Jvm.ClassFile.FieldType.int)).before args0 about1 = true := code_word (m := ⟨10, 2⟩) (meth := k10m2) (c := k10c2) (by decide +kernel) rfl rfl rfl (by decide +kernel)
set_option maxRecDepth 65536 in
theorem w_c43 : (Jvm.Cond.code ({ cls := "java/util/Arrays", name := "copyOf", desc := "([BI)[B" } : Jvm.MethodName) jdk_65_method_121_code (3 : Nat) (Option.some (Jvm.ClassFile.FieldType.array Jvm.ClassFile.FieldType.byte))).before args0 about1 = true := code_word (m := ⟨23, 1⟩) (meth := k23m1) (c := k23c1) (by decide +kernel) rfl rfl rfl (by decide +kernel)
set_option maxRecDepth 65536 in
theorem w_c44 : (Jvm.Cond.code ({ cls := "java/lang/Math", name := "min", desc := "(II)I" } : Jvm.MethodName) jdk_29_method_69_code (2 : Nat) (Option.some Jvm.ClassFile.FieldType.int)).before args0 about1 = true := code_word (m := ⟨24, 1⟩) (meth := k24m1) (c := k24c1) (by decide +kernel) rfl rfl rfl (by decide +kernel)
def codes1 : List Jvm.Cond := [Jvm.Cond.code x code maxLocals ret, Jvm.Cond.code ({ cls := "com/example/ticks_into_totals/ticksintototals/CounterNameHashCodePinLaw", name := "tok", desc := "(I)C" } : Jvm.MethodName) method_2_code (2 : Nat) (Option.some Jvm.ClassFile.FieldType.char), Jvm.Cond.code ({ cls := "com/example/ticks_into_totals/ticksintototals/CounterNameHashCodePinLaw", name := "idc", desc := "(I)C" } : Jvm.MethodName) method_3_code (2 : Nat) (Option.some Jvm.ClassFile.FieldType.char), Jvm.Cond.code ({ cls := "java/lang/String", name := "<init>", desc := "([C)V" } : Jvm.MethodName) jdk_42_method_3_code (2 : Nat) (Option.none : Option Jvm.ClassFile.FieldType), Jvm.Cond.code ({ cls := "java/lang/String", name := "<init>", desc := "([CIILjava/lang/Void;)V" } : Jvm.MethodName) jdk_42_method_149_code (6 : Nat) (Option.none : Option Jvm.ClassFile.FieldType), Jvm.Cond.code ({ cls := "java/lang/Object", name := "<init>", desc := "()V" } : Jvm.MethodName) object_method_1_code (1 : Nat) (Option.none : Option Jvm.ClassFile.FieldType), Jvm.Cond.code ({ cls := "java/lang/StringUTF16", name := "compress", desc := "([CII)[B" } : Jvm.MethodName) jdk_52_method_16_code (6 : Nat) (Option.some (Jvm.ClassFile.FieldType.array Jvm.ClassFile.FieldType.byte)), Jvm.Cond.code ({ cls := "java/lang/StringUTF16", name := "compress", desc := "([CI[BII)I" } : Jvm.MethodName) jdk_52_method_21_code (7 : Nat) (Option.some Jvm.ClassFile.FieldType.int), Jvm.Cond.code ({ cls := "java/lang/StringUTF16", name := "coderFromArrayLen", desc := "([BI)B" } : Jvm.MethodName) jdk_52_method_15_code (2 : Nat) (Option.some Jvm.ClassFile.FieldType.byte), Jvm.Cond.code ({ cls := "com/example/ticks_into_totals/ticksintototals/CounterName", name := "<init>", desc := "(Ljava/lang/String;Ljava/lang/String;Ljava/lang/String;)V" } : Jvm.MethodName) prog_3_method_1_code (4 : Nat) (Option.none : Option Jvm.ClassFile.FieldType), Jvm.Cond.code ({ cls := "java/lang/Record", name := "<init>", desc := "()V" } : Jvm.MethodName) jdk_30_method_1_code (1 : Nat) (Option.none : Option Jvm.ClassFile.FieldType), Jvm.Cond.code ({ cls := "com/example/ticks_into_totals/ticksintototals/CounterName", name := "checkToken", desc := "(Ljava/lang/String;Ljava/lang/String;)Ljava/lang/String;" } : Jvm.MethodName) prog_3_method_4_code (2 : Nat) (Option.some (Jvm.ClassFile.FieldType.object "java/lang/String")), Jvm.Cond.code ({ cls := "java/util/Objects", name := "requireNonNull", desc := "(Ljava/lang/Object;Ljava/lang/String;)Ljava/lang/Object;" } : Jvm.MethodName) jdk_31_method_11_code (2 : Nat) (Option.some (Jvm.ClassFile.FieldType.object "java/lang/Object")), Jvm.Cond.code ({ cls := "java/lang/String", name := "isEmpty", desc := "()Z" } : Jvm.MethodName) jdk_42_method_55_code (1 : Nat) (Option.some Jvm.ClassFile.FieldType.boolean), Jvm.Cond.code ({ cls := "java/lang/String", name := "length", desc := "()I" } : Jvm.MethodName) jdk_42_method_54_code (1 : Nat) (Option.some Jvm.ClassFile.FieldType.int), Jvm.Cond.code ({ cls := "java/lang/String", name := "coder", desc := "()B" } : Jvm.MethodName) jdk_42_method_152_code (1 : Nat) (Option.some Jvm.ClassFile.FieldType.byte), Jvm.Cond.code ({ cls := "com/example/ticks_into_totals/ticksintototals/CounterName", name := "isToken", desc := "(Ljava/lang/String;)Z" } : Jvm.MethodName) prog_3_method_5_code (2 : Nat) (Option.some Jvm.ClassFile.FieldType.boolean), Jvm.Cond.code ({ cls := "java/lang/String", name := "charAt", desc := "(I)C" } : Jvm.MethodName) jdk_42_method_56_code (2 : Nat) (Option.some Jvm.ClassFile.FieldType.char), Jvm.Cond.code ({ cls := "java/lang/String", name := "isLatin1", desc := "()Z" } : Jvm.MethodName) jdk_42_method_154_code (1 : Nat) (Option.some Jvm.ClassFile.FieldType.boolean), Jvm.Cond.code ({ cls := "java/lang/StringLatin1", name := "charAt", desc := "([BI)C" } : Jvm.MethodName) jdk_43_method_2_code (2 : Nat) (Option.some Jvm.ClassFile.FieldType.char), Jvm.Cond.code ({ cls := "java/lang/String", name := "checkIndex", desc := "(II)V" } : Jvm.MethodName) jdk_42_method_155_code (2 : Nat) (Option.none : Option Jvm.ClassFile.FieldType), Jvm.Cond.code ({ cls := "jdk/internal/util/Preconditions", name := "checkIndex", desc := "(IILjava/util/function/BiFunction;)I" } : Jvm.MethodName) jdk_41_method_11_code (3 : Nat) (Option.some Jvm.ClassFile.FieldType.int), Jvm.Cond.code ({ cls := "com/example/ticks_into_totals/ticksintototals/CounterName", name := "isTokenChar", desc := "(C)Z" } : Jvm.MethodName) prog_3_method_6_code (1 : Nat) (Option.some Jvm.ClassFile.FieldType.boolean), Jvm.Cond.code ({ cls := "com/example/ticks_into_totals/ticksintototals/CounterName", name := "checkId", desc := "(Ljava/lang/String;)Ljava/lang/String;" } : Jvm.MethodName) prog_3_method_7_code (2 : Nat) (Option.some (Jvm.ClassFile.FieldType.object "java/lang/String")), Jvm.Cond.code ({ cls := "com/example/ticks_into_totals/ticksintototals/CounterName", name := "pairsEverySurrogate", desc := "(Ljava/lang/String;)Z" } : Jvm.MethodName) prog_3_method_8_code (3 : Nat) (Option.some Jvm.ClassFile.FieldType.boolean), Jvm.Cond.code ({ cls := "java/lang/String", name := "codePointAt", desc := "(I)I" } : Jvm.MethodName) jdk_42_method_57_code (3 : Nat) (Option.some Jvm.ClassFile.FieldType.int), Jvm.Cond.code ({ cls := "java/lang/Character", name := "charCount", desc := "(I)I" } : Jvm.MethodName) jdk_89_method_18_code (1 : Nat) (Option.some Jvm.ClassFile.FieldType.int), Jvm.Cond.code ({ cls := "java/lang/String", name := "getBytes", desc := "(Ljava/nio/charset/Charset;)[B" } : Jvm.MethodName) jdk_42_method_64_code (2 : Nat) (Option.some (Jvm.ClassFile.FieldType.array Jvm.ClassFile.FieldType.byte)), Jvm.Cond.code ({ cls := "java/lang/String", name := "encode", desc := "(Ljava/nio/charset/Charset;B[B)[B" } : Jvm.MethodName) jdk_42_method_18_code (3 : Nat) (Option.some (Jvm.ClassFile.FieldType.array Jvm.ClassFile.FieldType.byte)), Jvm.Cond.code ({ cls := "java/lang/String", name := "encodeUTF8", desc := "(B[BZ)[B" } : Jvm.MethodName) jdk_42_method_46_code (9 : Nat) (Option.some (Jvm.ClassFile.FieldType.array Jvm.ClassFile.FieldType.byte)), Jvm.Cond.code ({ cls := "java/lang/StringCoding", name := "hasNegatives", desc := "([BII)Z" } : Jvm.MethodName) jdk_123_method_2_code (3 : Nat) (Option.some Jvm.ClassFile.FieldType.boolean), Jvm.Cond.code ({ cls := "java/lang/StringCoding", name := "countPositives", desc := "([BII)I" } : Jvm.MethodName) jdk_123_method_3_code (5 : Nat) (Option.some Jvm.ClassFile.FieldType.int), Jvm.Cond.code ({ cls := "com/example/ticks_into_totals/ticksintototals/CounterName", name := "hasControlCharacter", desc := "(Ljava/lang/String;)Z" } : Jvm.MethodName) prog_3_method_9_code (3 : Nat) (Option.some Jvm.ClassFile.FieldType.boolean), Jvm.Cond.code ({ cls := "com/example/ticks_into_totals/ticksintototals/CounterName", name := "equals", desc := "(Ljava/lang/Object;)Z" } : Jvm.MethodName) prog_3_method_2_code (3 : Nat) (Option.some Jvm.ClassFile.FieldType.boolean), Jvm.Cond.code ({ cls := "java/lang/String", name := "equals", desc := "(Ljava/lang/Object;)Z" } : Jvm.MethodName) jdk_42_method_66_code (3 : Nat) (Option.some Jvm.ClassFile.FieldType.boolean), Jvm.Cond.code ({ cls := "java/lang/StringLatin1", name := "equals", desc := "([B[B)Z" } : Jvm.MethodName) jdk_43_method_13_code (3 : Nat) (Option.some Jvm.ClassFile.FieldType.boolean), Jvm.Cond.code ({ cls := "com/example/ticks_into_totals/ticksintototals/CounterName", name := "hashCode", desc := "()I" } : Jvm.MethodName) prog_3_method_3_code (1 : Nat) (Option.some Jvm.ClassFile.FieldType.int), Jvm.Cond.code ({ cls := "java/lang/String", name := "hashCode", desc := "()I" } : Jvm.MethodName) jdk_42_method_78_code (2 : Nat) (Option.some Jvm.ClassFile.FieldType.int), Jvm.Cond.code ({ cls := "java/lang/StringLatin1", name := "hashCode", desc := "([B)I" } : Jvm.MethodName) jdk_43_method_21_code (1 : Nat) (Option.some Jvm.ClassFile.FieldType.int), Jvm.Cond.code ({ cls := "jdk/internal/util/ArraysSupport", name := "vectorizedHashCode", desc := "(Ljava/lang/Object;IIII)I" } : Jvm.MethodName) jdk_48_method_4_code (5 : Nat) (Option.some Jvm.ClassFile.FieldType.int), Jvm.Cond.code ({ cls := "jdk/internal/util/ArraysSupport", name := "signedHashCode", desc := "(I[BII)I" } : Jvm.MethodName) jdk_48_method_5_code (6 : Nat) (Option.some Jvm.ClassFile.FieldType.int), Jvm.Cond.code ({ cls := "java/lang/StringUTF16", name := "newBytesFor", desc := "(I)[B" } : Jvm.MethodName) jdk_52_method_2_code (1 : Nat) (Option.some (Jvm.ClassFile.FieldType.array Jvm.ClassFile.FieldType.byte)), Jvm.Cond.code ({ cls := "java/lang/StringUTF16", name := "newBytesLength", desc := "(I)I" } : Jvm.MethodName) jdk_52_method_3_code (1 : Nat) (Option.some Jvm.ClassFile.FieldType.int), Jvm.Cond.code ({ cls := "java/util/Arrays", name := "copyOf", desc := "([BI)[B" } : Jvm.MethodName) jdk_65_method_121_code (3 : Nat) (Option.some (Jvm.ClassFile.FieldType.array Jvm.ClassFile.FieldType.byte)), Jvm.Cond.code ({ cls := "java/lang/Math", name := "min", desc := "(II)I" } : Jvm.MethodName) jdk_29_method_69_code (2 : Nat) (Option.some Jvm.ClassFile.FieldType.int)]
set_option maxRecDepth 65536 in
theorem codes_eq : words1.filter isCode = codes1 := rfl
theorem w_codes : ∀ c ∈ words1.filter isCode, c.before args0 about1 = true := by
  rw [codes_eq]
  intro c hc
  simp only [codes1, List.mem_cons, List.not_mem_nil, or_false] at hc
  rcases hc with rfl | rfl | rfl | rfl | rfl | rfl | rfl | rfl | rfl | rfl | rfl | rfl | rfl | rfl | rfl | rfl | rfl | rfl | rfl | rfl | rfl | rfl | rfl | rfl | rfl | rfl | rfl | rfl | rfl | rfl | rfl | rfl | rfl | rfl | rfl | rfl | rfl | rfl | rfl | rfl | rfl | rfl | rfl | rfl | rfl
  · exact w_c0
  · exact w_c1
  · exact w_c2
  · exact w_c3
  · exact w_c4
  · exact w_c5
  · exact w_c6
  · exact w_c7
  · exact w_c8
  · exact w_c9
  · exact w_c10
  · exact w_c11
  · exact w_c12
  · exact w_c13
  · exact w_c14
  · exact w_c15
  · exact w_c16
  · exact w_c17
  · exact w_c18
  · exact w_c19
  · exact w_c20
  · exact w_c21
  · exact w_c22
  · exact w_c23
  · exact w_c24
  · exact w_c25
  · exact w_c26
  · exact w_c27
  · exact w_c28
  · exact w_c29
  · exact w_c30
  · exact w_c31
  · exact w_c32
  · exact w_c33
  · exact w_c34
  · exact w_c35
  · exact w_c36
  · exact w_c37
  · exact w_c38
  · exact w_c39
  · exact w_c40
  · exact w_c41
  · exact w_c42
  · exact w_c43
  · exact w_c44
set_option maxRecDepth 65536 in
theorem w_t1 : (words1.take 24).all (fun c => isCode c || c.before args0 about1) = true := by decide +kernel
set_option maxRecDepth 65536 in
theorem w_t2 : ((words1.drop 24).take 24).all (fun c => isCode c || c.before args0 about1) = true := by decide +kernel
set_option maxRecDepth 65536 in
theorem w_t3 : (((words1.drop 24).drop 24).take 24).all (fun c => isCode c || c.before args0 about1) = true := by decide +kernel
set_option maxRecDepth 65536 in
theorem w_t4 : ((((words1.drop 24).drop 24).drop 24).take 24).all (fun c => isCode c || c.before args0 about1) = true := by decide +kernel
set_option maxRecDepth 65536 in
theorem w_t5 : (((((words1.drop 24).drop 24).drop 24).drop 24).take 24).all (fun c => isCode c || c.before args0 about1) = true := by decide +kernel
set_option maxRecDepth 65536 in
theorem w_t6 : ((((((words1.drop 24).drop 24).drop 24).drop 24).drop 24).take 24).all (fun c => isCode c || c.before args0 about1) = true := by decide +kernel
set_option maxRecDepth 65536 in
theorem w_t7 : (((((((words1.drop 24).drop 24).drop 24).drop 24).drop 24).drop 24).take 24).all (fun c => isCode c || c.before args0 about1) = true := by decide +kernel
set_option maxRecDepth 65536 in
theorem w_t8 : ((((((((words1.drop 24).drop 24).drop 24).drop 24).drop 24).drop 24).drop 24).take 24).all (fun c => isCode c || c.before args0 about1) = true := by decide +kernel
set_option maxRecDepth 65536 in
theorem w_t9 : (((((((((words1.drop 24).drop 24).drop 24).drop 24).drop 24).drop 24).drop 24).drop 24).take 24).all (fun c => isCode c || c.before args0 about1) = true := by decide +kernel
set_option maxRecDepth 65536 in
theorem w_t10 : (((((((((words1.drop 24).drop 24).drop 24).drop 24).drop 24).drop 24).drop 24).drop 24).drop 24).all (fun c => isCode c || c.before args0 about1) = true := by decide +kernel
theorem w_tables : (allAtoms (Jvm.Cond.code x code maxLocals ret :: tables_1)).before args0 about1 = true := by
  rw [allAtoms_all]
  show words1.all (fun c => c.before args0 about1) = true
  refine all_split ?_ w_codes
  rw [← List.take_append_drop 24 words1, List.all_append, w_t1, ← List.take_append_drop 24 (words1.drop 24), List.all_append, w_t2, ← List.take_append_drop 24 ((words1.drop 24).drop 24), List.all_append, w_t3, ← List.take_append_drop 24 (((words1.drop 24).drop 24).drop 24), List.all_append, w_t4, ← List.take_append_drop 24 ((((words1.drop 24).drop 24).drop 24).drop 24), List.all_append, w_t5, ← List.take_append_drop 24 (((((words1.drop 24).drop 24).drop 24).drop 24).drop 24), List.all_append, w_t6, ← List.take_append_drop 24 ((((((words1.drop 24).drop 24).drop 24).drop 24).drop 24).drop 24), List.all_append, w_t7, ← List.take_append_drop 24 (((((((words1.drop 24).drop 24).drop 24).drop 24).drop 24).drop 24).drop 24), List.all_append, w_t8, ← List.take_append_drop 24 ((((((((words1.drop 24).drop 24).drop 24).drop 24).drop 24).drop 24).drop 24).drop 24), List.all_append, w_t9, w_t10]
  rfl
set_option maxRecDepth 65536 in
theorem w_rest : rest_1_c.before args0 about1 = true := by decide +kernel
set_option maxRecDepth 65536 in
theorem w_case : (Jvm.Cond.and given_1 narrow_1).before args0 about1 = true := by decide +kernel
theorem w_applies : (headSpec (Jvm.Cond.code x code maxLocals ret :: tables_1) room_1).applies x e0.platform about1 = true :=
  (Spec.applies_iff w_frames).mpr ⟨w_running, w_runnable, w_alone, w_named, w_hears, w_ripe, w_room, w_tables⟩
theorem atStart : AtStart classFile x code maxLocals ret World_1 tables_1 room_1 Calls_1 rest_1 Pre_1 launch0 p0 e0 about1 theMethod args0 below0 :=
  ⟨lists_1, trivial, launch0.admits_env _ _ _, launch0.least_env, fairChoices_fair.cas, fairChoices_fair.clock, w_frames, w_args, w_heap, w_applies, trivial, w_rest, w_case⟩
end start1
theorem witness_1 : WitnessClaimed_1 := ⟨start1.p0, start1.e0, start1.about1, start1.theMethod, start1.args0, start1.below0, start1.atStart⟩
end Jvm.Pilot.@@N@@
