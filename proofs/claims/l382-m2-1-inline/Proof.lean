import JvmDerived
import JvmDerived.Pilot.@@N@@Statement
import JvmDerived.Pilot.@@N@@Code
set_option linter.unusedVariables false
set_option linter.unusedSimpArgs false


namespace Jvm.RoadKit
open Sem ClassFile Op Lib Jvm.Stand Jvm.Free Jvm.LawKit
section Own
variable {Z : State} {h h0 h' : Heap} {a b : Addr} {k : ClassId} {n j : Int32} {vs : List Value} {dv : Value}
theorem Arv.inb {ty : FieldType} (A : Arv Z h a k ty n vs dv) (h1 : ¬ j < 0) (h2 : j < n) : ∃ c, Arr Z h a c ty ∧ c.cls = k ∧ c.slots.size = n.toNatClampNeg ∧ ¬ n < 0 ∧ Has c vs dv ∧ (∀ i, i < c.slots.size → fits ty (vs.getD i dv) = true) ∧ ¬ (j < 0 ∨ c.slots.size ≤ j.toNatClampNeg) := by
  obtain ⟨c, A1, A2, A3, A4, A5, A6⟩ := A
  exact ⟨c, A1, A2, A3, A4, A5, A6, inb_of A3 ⟨h1, h2⟩⟩
theorem Ext.keepN (E : Ext h0 h) (K : Keep h h' [b]) (q : h0.size ≤ b) : Ext h0 h' := ⟨Nat.le_trans E.1 K.1, fun x c hx => K.2.1 x c (E.2 x c hx) fun z => by
  cases List.mem_singleton.mp z
  exact absurd (Array.getElem?_eq_some_iff.mp hx).1 (Nat.not_lt.mpr q)⟩
theorem Ext.keepL {ws : List Addr} (E : Ext h0 h) (K : Keep h h' ws) (q : ∀ x ∈ ws, h0.size ≤ x) : Ext h0 h' := ⟨Nat.le_trans E.1 K.1, fun x c hx => K.2.1 x c (E.2 x c hx) fun z => absurd (Array.getElem?_eq_some_iff.mp hx).1 (Nat.not_lt.mpr (q x z))⟩
theorem Ext.rfl' : Ext h h := ⟨Nat.le_refl _, fun _ _ q => q⟩
theorem Ext.tr {h1 : Heap} (E : Ext h h1) (E' : Ext h1 h') : Ext h h' := ⟨Nat.le_trans E.1 E'.1, fun x c q => E'.2 x c (E.2 x c q)⟩
theorem Ext.wrN {sl : Nat} {v : Value} (E : Ext h0 h) (W : Wr h h' a sl v) (q : h0.size ≤ a) : Ext h0 h' := E.keepN (Keep.of_wr W) q
end Own
end Jvm.RoadKit

namespace Jvm.OwnKit
open Sem ClassFile Op Lib Jvm.Stand Jvm.Free Jvm.LawKit Jvm.RoadKit
/-- the String constants that the walk has loaded, each with its object (none: not kept) -/
abbrev Sg : Type := Option (List (String × Nat × String × Addr))
def VOk (Z : State) (vm : Vm) : Sg → Prop
  | none => True
  | some L => IB Z vm (L.map fun q => q.2.2.1) ∧ ∀ q ∈ L, Lit (Z.setVm vm) q.1 q.2.1 q.2.2.2
theorem VOk.warm {Z s : State} {vm0 vm1 : Vm} {σ : Sg} (V : VOk Z vm0 σ) (hW : (s.setVm vm0).WarmedH vm1) : VOk Z vm1 σ := by
  cases σ with
  | none => trivial
  | some L =>
    obtain ⟨⟨more, e, hm⟩, hl⟩ := V
    refine ⟨⟨more, ?_, hm⟩, fun q hq => ?_⟩
    · rw [hW.interned_eq]; exact e
    · have h1 : Lit (s.setVm vm0) q.1 q.2.1 q.2.2.2 := hl q hq
      exact Lit.stays h1 hW.wide
/-- the unsigned shifts, the comparing of longs, as the machine spells them -/
abbrev ushr (x y : Int32) : Int32 := (x.toUInt32 >>> (y &&& 31).toUInt32).toInt32
abbrev ushrL (x : Int64) (y : Int32) : Int64 := (x.toUInt64 >>> (y &&& 63).toInt64.toUInt64).toInt64
abbrev cmpL (x y : Int64) : Int32 := if x > y then 1 else if x = y then 0 else -1
/-- the data of one walk of one body -/
abbrev Cx : Type := Program × Launch × Env × Room × State × MethodId × Array Value × List Frame × Method × Code × State × Nat × (Option Value → Heap → Sg → Prop)
/-- from this pc, these locals, this stack and this heap the body comes to its end as promised -/
def Go : Cx → Sg → Heap → Nat → Nat → Nat → Array Slot → List Value → Prop
  | (p, l, e, R, s, m, args, below, meth, c, Z, n0, Q), σ, h, ce, sl, pc, ls, st =>
    ∀ (vm0 : Vm) (k0 : Nat) (T : State) (locs : List Loc), Stand p l e R (s.setVm vm0) m args below meth c T locs ce sl → s.Since vm0 k0 → k0 ≤ h.size → VOk Z vm0 σ → Old Z n0 h → T.heap = h → Fr n0 locs →
      ∃ (s₂ : State) (o : Outcome), Steps p.tables e below (T.setTop (mkF m pc ls st)) s₂ ∧ s₂.status = .running ∧ Ended s₂ below o ∧
        ∃ (v : Option Value) (L : List Loc) (σ' : Sg), o = .returned v ∧ (Fr n0 L ∧ VOk Z s₂.vm σ' ∧ Old Z n0 s₂.heap ∧ Q v s₂.heap σ') ∧ ReturnedEndW s o s₂ L R.cells R.slots
/-- what is known of a walk's data -/
def Amb : Cx → Launch → State → MethodName → ByteArray → Nat → Option FieldType → Room → Heap → Nat → (Option Value → Heap → Sg → Prop) → Prop
  | (p, l', e, R, s, m, args, below, meth, c, Z', n0', Q'), l, Z, y, code, maxL, ret, rm, h0, n0, Q =>
    l' = l ∧ R = rm ∧ Z' = Z ∧ n0' = n0 ∧ (∀ v h σ, Q v h σ → Q' v h σ) ∧ p.tables.exec = Jvm.exec ∧ Z.Warmed39 s.vm ∧ s.vm.findClass y.cls = some m.cls ∧ c.code = code ∧ c.maxLocals = maxL ∧ meth.sig.returnType = ret ∧ meth.locks = false ∧ meth.name = y.name ∧ s.heap = h0
/-- a body's contract -/
def Con (l : Launch) (Z : State) (y : MethodName) (code : ByteArray) (maxL : Nat) (ret : Option FieldType) (rm : Room) (ws : List Jvm.Cond) (as : Array Value) (σ : Sg) (h0 : Heap) (n0 : Nat) (Q : Option Value → Heap → Sg → Prop) : Prop :=
  MetFree l y (head1 (Jvm.Cond.code y code maxL ret :: ws) rm) (fun a U => a = as ∧ Z.Warmed39 U.vm ∧ U.heap = h0 ∧ VOk Z U.vm σ ∧ Old Z n0 U.heap) (fun _ _ _ _ _ => True)
    (fun _ U o U' => ∃ v L σ', o = .returned v ∧ (Fr n0 L ∧ VOk Z U'.vm σ' ∧ Old Z n0 U'.heap ∧ Q v U'.heap σ') ∧ ReturnedEndW U o U' L rm.cells rm.slots)
section Rules
variable {κ : Cx} {l : Launch} {Z : State} {y : MethodName} {code : ByteArray} {maxL : Nat} {ret : Option FieldType} {rm : Room} {ws : List Jvm.Cond} {as a0 : Array Value} {σ : Sg} {h h0 h' : Heap} {n0 : Nat} {Q Q' : Option Value → Heap → Sg → Prop} {ce sl ce' sl' pc pc' pc2 : Nat} {ls ls' : Array Slot} {st st' rest : List Value}
theorem Con.of_go (hpl : plainFor y = true) (hef : ∀ m, entryFrame m as maxL = mkF m 0 ls []) (H : ∀ κ : Cx, Amb κ l Z y code maxL ret rm h0 n0 Q → Go κ σ h0 0 0 0 ls []) : Con l Z y code maxL ret rm ws as σ h0 n0 Q := by
  refine MetFree.of_bodySF hpl hisR ?_
  intro p e s m args below meth c s₁ Bd hml0 hP hK
  obtain ⟨rfl, hZ, hh, hV, hO⟩ := hP
  have X0 : Stand p l e rm s m args below meth c s₁ [] 0 0 := Stand.of_body Bd
  have e0 : s₁.heap = h0 := by rw [← hh, Bd.state]; rfl
  obtain ⟨s₂, o, hst, hr, he, hq⟩ := H (p, l, e, rm, s, m, args, below, meth, c, Z, n0, Q) ⟨rfl, rfl, rfl, rfl, fun _ _ _ q => q, Bd.exec, hZ, findClass_of_methodNamed Bd.named, Bd.bytes, hml0, Bd.returns, BodyLoose.notSynchronized Bd, (name_of_methodNamed Bd.named Bd.method).1, hh⟩ s.vm h0.size s₁ [] X0 ((State.WarmedH.refl s).since _) (Nat.le_refl _) hV (hh ▸ hO) e0 (Fr.nil _)
  exact ⟨s₂, o, castTop (hef m) hst, hr, he, hq⟩
theorem Con.mono (M : Con l Z y code maxL ret rm ws as σ h0 n0 Q) (hq : ∀ v h σ, Q v h σ → Q' v h σ) : Con l Z y code maxL ret rm ws as σ h0 n0 Q' := by
  intro p e a1 a2 a3 s m args below a4 a5 a6 a7
  obtain ⟨n, o, b1, b2, b3, v, L, σ', b4, b5, b6⟩ := M p e a1 a2 a3 s m args below a4 a5 a6 a7
  exact ⟨n, o, b1, b2, b3, v, L, σ', b4, ⟨b5.1, b5.2.1, b5.2.2.1, hq _ _ _ b5.2.2.2⟩, b6⟩
theorem Go.pure (D : Amb κ l Z y code maxL ret rm h0 n0 Q)
    (f : ∀ (p : Program) (e : Env) (below : List Frame) (T t : State) (m : MethodId) (c : Code), p.tables.exec = Jvm.exec → c.code = code → At T m c below → Steps p.tables e below (T.setTop (mkF m pc' ls' st')) t → Steps p.tables e below (T.setTop (mkF m pc ls st)) t)
    (G : Go κ σ h ce sl pc' ls' st') : Go κ σ h ce sl pc ls st := by
  obtain ⟨p, l', e, R, s, m, args, below, meth, c, Z', n0', Q'⟩ := κ
  obtain ⟨rfl, rfl, rfl, rfl, hQ, hx, hZ, hown, hby, hml, hret, hlk, hnm, hh⟩ := D
  intro vm0 k0 T locs X hS hk V O eT N
  obtain ⟨s₂, o, h1, h2⟩ := G vm0 k0 T locs X hS hk V O eT N
  exact ⟨s₂, o, f p e below T s₂ m c hx hby X.here h1, h2⟩
/-- a step that asks the walk's standing, the heap as it was -/
theorem Go.calm (D : Amb κ l Z y code maxL ret rm h0 n0 Q)
    (f : ∀ (p : Program) (e : Env) (s : State) (m : MethodId) (args : Array Value) (below : List Frame) (meth : Method) (c : Code) (T : State) (locs : List Loc), p.tables.exec = Jvm.exec → Z.Warmed39 s.vm → s.vm.findClass y.cls = some m.cls → c.code = code → c.maxLocals = maxL → s.heap = h0 → Stand p l e rm s m args below meth c T locs ce sl → T.heap = h → ∃ T', Stand p l e rm s m args below meth c T' locs ce sl ∧ T'.heap = h ∧ ∀ t, Steps p.tables e below (T'.setTop (mkF m pc' ls' st')) t → Steps p.tables e below (T.setTop (mkF m pc ls st)) t)
    (G : Go κ σ h ce sl pc' ls' st') : Go κ σ h ce sl pc ls st := by
  obtain ⟨p, l', e, R, s, m, args, below, meth, c, Z', n0', Q'⟩ := κ
  obtain ⟨rfl, rfl, rfl, rfl, hQ, hx, hZ, hown, hby, hml, hret, hlk, hnm, hh⟩ := D
  intro vm0 k0 T locs X hS hk V O eT N
  obtain ⟨T', X', eT', k⟩ := f p e (s.setVm vm0) m args below meth c T locs hx (State.Warmed39.trans (t := s) hZ hS.1) (by show vm0.findClass _ = _; rw [hS.1.alike.findClass]; exact hown) hby hml hh X eT
  obtain ⟨s₂, o, h1, h2⟩ := G vm0 k0 T' locs X' hS hk V O eT' N
  exact ⟨s₂, o, k _ h1, h2⟩
/-- what a step may write -/
def Gw (h h' : Heap) (n0 : Nat) : Prop := ∃ ws : List Addr, Keep h h' ws ∧ ∀ x ∈ ws, n0 ≤ x
theorem Gw.ext (E : Ext h h') : Gw h h' n0 := ⟨[], (Keep.refl _ _).ext E, fun _ q => nomatch q⟩
theorem Gw.one {a : Addr} (K : Keep h h' [a]) (q : n0 ≤ a) : Gw h h' n0 := ⟨[a], K, fun x z => by cases List.mem_singleton.mp z; exact q⟩
/-- a step that turns the heap -/
theorem Go.turn (D : Amb κ l Z y code maxL ret rm h0 n0 Q) {P : Heap → Prop}
    (f : ∀ (p : Program) (e : Env) (s : State) (m : MethodId) (args : Array Value) (below : List Frame) (meth : Method) (c : Code) (T : State) (locs : List Loc), p.tables.exec = Jvm.exec → Z.Warmed39 s.vm → s.vm.findClass y.cls = some m.cls → c.code = code → c.maxLocals = maxL → meth.name = y.name → Stand p l e rm s m args below meth c T locs ce sl → T.heap = h → Fr n0 locs → ∃ T' locs' h', Stand p l e rm s m args below meth c T' locs' ce' sl' ∧ T'.heap = h' ∧ Fr n0 locs' ∧ Gw h h' n0 ∧ P h' ∧ ∀ t, Steps p.tables e below (T'.setTop (mkF m pc' ls' st')) t → Steps p.tables e below (T.setTop (mkF m pc ls st)) t)
    (G : ∀ h', P h' → Go κ σ h' ce' sl' pc' ls' st') : Go κ σ h ce sl pc ls st := by
  obtain ⟨p, l', e, R, s, m, args, below, meth, c, Z', n0', Q'⟩ := κ
  obtain ⟨rfl, rfl, rfl, rfl, hQ, hx, hZ, hown, hby, hml, hret, hlk, hnm, hh⟩ := D
  intro vm0 k0 T locs X hS hk V O eT N
  obtain ⟨T', locs', h', X', eT', N', ⟨ws, K, hws⟩, hP, k⟩ := f p e (s.setVm vm0) m args below meth c T locs hx (State.Warmed39.trans (t := s) hZ hS.1) (by show vm0.findClass _ = _; rw [hS.1.alike.findClass]; exact hown) hby hml hnm X eT N
  obtain ⟨s₂, o, h1, h2⟩ := G h' hP vm0 k0 T' locs' X' hS (Nat.le_trans hk K.1) V (O.keep K hws) eT' N'
  exact ⟨s₂, o, k _ h1, h2⟩
theorem sd_mono {p : Program} {e : Env} {R : Room} {s : State} {m : MethodId} {args : Array Value} {below : List Frame} {meth : Method} {c : Code} {T : State} {locs : List Loc} (X : Stand p l e R s m args below meth c T locs ce sl) (h1 : ce ≤ ce') (h2 : sl ≤ sl') : Stand p l e R s m args below meth c T locs ce' sl' :=
  { X with same := X.same.mono h1 h2 }
theorem Go.up (h1 : ce ≤ ce') (h2 : sl ≤ sl') (G : Go κ σ h ce' sl' pc ls st) : Go κ σ h ce sl pc ls st := by
  obtain ⟨p, l', e, R, s, m, args, below, meth, c, Z', n0', Q'⟩ := κ
  intro vm0 k0 T locs X hS hk V O eT N
  exact G vm0 k0 T locs (sd_mono X h1 h2) hS hk V O eT N
/-- the walk's hidden knowledge: the heap at the start stands -/
theorem Go.old (D : Amb κ l Z y code maxL ret rm h0 n0 Q) (G : Old Z n0 h → Go κ σ h ce sl pc ls st) : Go κ σ h ce sl pc ls st := by
  obtain ⟨p, l', e, R, s, m, args, below, meth, c, Z', n0', Q'⟩ := κ
  obtain ⟨rfl, rfl, rfl, rfl, hQ, hx, hZ, hown, hby, hml, hret, hlk, hnm, hh⟩ := D
  intro vm0 k0 T locs X hS hk V O eT N
  exact G O vm0 k0 T locs X hS hk V O eT N
theorem Go.getS (D : Amb κ l Z y code maxL ret rm h0 n0 Q) {idx : Nat} {n d O : String} {v : Value} (w : (Jvm.Cond.fieldLink y.cls idx O n d).before a0 Z = true) (hd : decode code pc = .ok (.getstatic idx, 3)) (hp : pc + 3 = pc') (F : Sta Z Z.heap O n d v) (G : Go κ σ h ce sl pc' ls (v :: st)) : Go κ σ h ce sl pc ls st := by
  subst hp
  refine Go.old D fun O' => ?_
  exact Go.calm D (fun p e s m args below meth c T locs hx hZ hown hby hml hh X eT => Jvm.RoadKit.getS (host := "") X hx hZ hown w Via.refl eT (F.ext O'.2) (g := mkF m pc ls st) rfl (hb hby hd)) G
/-! returns -/
theorem Go.ret1 (D : Amb κ l Z y code maxL ret rm h0 n0 Q) {i : Instr} {t : FieldType} {w : Value} (hret' : ret = some t) (hn : narrow t w = w)
    (hi : (i = .ireturn ∧ (t = .int ∨ t = .boolean ∨ t = .byte ∨ t = .char ∨ t = .short) ∧ ∃ z, w = .int z) ∨ (i = .lreturn ∧ t = .long ∧ ∃ z, w = .long z) ∨ (i = .dreturn ∧ t = .double ∧ ∃ z, w = .double z) ∨ (i = .freturn ∧ t = .float ∧ ∃ z, w = .float z) ∨ (i = .areturn ∧ t.isReference = true ∧ w.isRef = true))
    (hd : decode code pc = .ok (i, 1)) (hc : ce ≤ rm.cells) (hs : sl ≤ rm.slots) (q : Q (some w) h σ) : Go κ σ h ce sl pc ls (w :: rest) := by
  obtain ⟨p, l', e, R, s, m, args, below, meth, c, Z', n0', Q'⟩ := κ
  obtain ⟨rfl, rfl, rfl, rfl, hQ, hx, hZ, hown, hby, hml, hret, hlk, hnm, hh⟩ := D
  intro vm0 k0 T locs X hS hk V O eT N
  have hr2 : meth.sig.returnType = some t := hret.trans hret'
  obtain ⟨fs, hr, hrun, hended, hW⟩ := X.leaveW hS (by rw [eT]; exact hk) (v := some w) (fun h => by rw [hr2] at h; cases h) hlk
  refine ⟨_, _, retOut X hx hr2 hn hi (hb hby hd) hr, hrun, hended, _, _, σ, rfl, ⟨N, V.warm X.warmed, ?_, hQ _ _ _ ?_⟩, hW.1, hW.2.1, hW.2.2.1, hW.2.2.2.mono hc hs⟩
  · show Old _ _ T.heap
    rw [eT]; exact O
  · show Q (some w) T.heap σ
    rw [eT]; exact q
theorem Go.iret (D : Amb κ l Z y code maxL ret rm h0 n0 Q) {x : Int32} (hret' : ret = some .int) (hd : decode code pc = .ok (.ireturn, 1)) (hc : ce ≤ rm.cells) (hs : sl ≤ rm.slots) (q : Q (some (.int x)) h σ) : Go κ σ h ce sl pc ls (.int x :: rest) :=
  Go.ret1 D hret' rfl (Or.inl ⟨rfl, Or.inl rfl, _, rfl⟩) hd hc hs q
theorem Go.zret (D : Amb κ l Z y code maxL ret rm h0 n0 Q) {x : Int32} (hret' : ret = some .boolean) (hx : narrow .boolean (.int x) = .int x) (hd : decode code pc = .ok (.ireturn, 1)) (hc : ce ≤ rm.cells) (hs : sl ≤ rm.slots) (q : Q (some (.int x)) h σ) : Go κ σ h ce sl pc ls (.int x :: rest) :=
  Go.ret1 D hret' hx (Or.inl ⟨rfl, Or.inr (Or.inl rfl), _, rfl⟩) hd hc hs q
theorem Go.cret (D : Amb κ l Z y code maxL ret rm h0 n0 Q) {x : Int32} (hret' : ret = some .char) (hx : narrow .char (.int x) = .int x) (hd : decode code pc = .ok (.ireturn, 1)) (hc : ce ≤ rm.cells) (hs : sl ≤ rm.slots) (q : Q (some (.int x)) h σ) : Go κ σ h ce sl pc ls (.int x :: rest) :=
  Go.ret1 D hret' hx (Or.inl ⟨rfl, Or.inr (Or.inr (Or.inr (Or.inl rfl))), _, rfl⟩) hd hc hs q
theorem Go.bret (D : Amb κ l Z y code maxL ret rm h0 n0 Q) {x : Int32} (hret' : ret = some .byte) (hx : narrow .byte (.int x) = .int x) (hd : decode code pc = .ok (.ireturn, 1)) (hc : ce ≤ rm.cells) (hs : sl ≤ rm.slots) (q : Q (some (.int x)) h σ) : Go κ σ h ce sl pc ls (.int x :: rest) :=
  Go.ret1 D hret' hx (Or.inl ⟨rfl, Or.inr (Or.inr (Or.inl rfl)), _, rfl⟩) hd hc hs q
theorem Go.aret (D : Amb κ l Z y code maxL ret rm h0 n0 Q) {t : FieldType} {a : Addr} (hret' : ret = some t) (ht : t.isReference = true) (hn : narrow t (.ref a) = .ref a) (hd : decode code pc = .ok (.areturn, 1)) (hc : ce ≤ rm.cells) (hs : sl ≤ rm.slots) (q : Q (some (.ref a)) h σ) : Go κ σ h ce sl pc ls (.ref a :: rest) :=
  Go.ret1 D hret' hn (Or.inr (Or.inr (Or.inr (Or.inr ⟨rfl, ht, rfl⟩)))) hd hc hs q
theorem Go.lret (D : Amb κ l Z y code maxL ret rm h0 n0 Q) {x : Int64} (hret' : ret = some .long) (hd : decode code pc = .ok (.lreturn, 1)) (hc : ce ≤ rm.cells) (hs : sl ≤ rm.slots) (q : Q (some (.long x)) h σ) : Go κ σ h ce sl pc ls (.long x :: rest) :=
  Go.ret1 D hret' rfl (Or.inr (Or.inl ⟨rfl, rfl, _, rfl⟩)) hd hc hs q
theorem Go.vret (D : Amb κ l Z y code maxL ret rm h0 n0 Q) (hret' : ret = none) (hd : decode code pc = .ok (.return_, 1)) (hc : ce ≤ rm.cells) (hs : sl ≤ rm.slots) (q : Q none h σ) : Go κ σ h ce sl pc ls [] := by
  obtain ⟨p, l', e, R, s, m, args, below, meth, c, Z', n0', Q'⟩ := κ
  obtain ⟨rfl, rfl, rfl, rfl, hQ, hx, hZ, hown, hby, hml, hret, hlk, hnm, hh⟩ := D
  intro vm0 k0 T locs X hS hk V O eT N
  have hr2 : meth.sig.returnType = none := hret.trans hret'
  obtain ⟨fs, hr, hrun, hended, hW⟩ := X.leaveW hS (by rw [eT]; exact hk) (v := none) (fun _ => rfl) hlk
  refine ⟨_, _, X.returnOut hx hr2 (hb hby hd) hr, hrun, hended, _, _, σ, rfl, ⟨N, V.warm X.warmed, ?_, hQ _ _ _ ?_⟩, hW.1, hW.2.1, hW.2.2.1, hW.2.2.2.mono hc hs⟩
  · show Old _ _ T.heap
    rw [eT]; exact O
  · show Q none T.heap σ
    rw [eT]; exact q
/-! branches -/
def cy : ClassFile.Cond → Int32 → Int32 → Prop
  | .eq, x, y => x = y
  | .ne, x, y => ¬ x = y
  | .lt, x, y => x < y
  | .ge, x, y => ¬ x < y
  | .gt, x, y => y < x
  | .le, x, y => ¬ y < x
def cn : ClassFile.Cond → Int32 → Int32 → Prop
  | .eq, x, y => ¬ x = y
  | .ne, x, y => x = y
  | .lt, x, y => ¬ x < y
  | .ge, x, y => x < y
  | .gt, x, y => ¬ y < x
  | .le, x, y => y < x
theorem icmp_dec (cd : ClassFile.Cond) (x y : Int32) : (if_icmp.holds cd x y = true ∧ cy cd x y) ∨ (if_icmp.holds cd x y = false ∧ cn cd x y) := by
  cases cd <;> simp only [if_icmp.holds, cy, cn, beq_iff_eq, bne_iff_ne, ne_eq, decide_eq_true_eq, decide_eq_false_iff_not, beq_eq_false_iff_ne, bne_eq_false_iff_eq, Int32.not_lt, gt_iff_lt, ge_iff_le, Int32.not_le]
  · by_cases q : x = y <;> simp [q]
  · by_cases q : x = y <;> simp [q]
  · rcases Int32.lt_or_le x y with q | q <;> simp [q]
  · rcases Int32.lt_or_le x y with q | q <;> simp [q]
  · rcases Int32.lt_or_le y x with q | q <;> simp [q]
  · rcases Int32.lt_or_le y x with q | q <;> simp [q]
theorem ifc_dec (cd : ClassFile.Cond) (x : Int32) : (ifCond.holds cd x = true ∧ cy cd x 0) ∨ (ifCond.holds cd x = false ∧ cn cd x 0) := by
  cases cd <;> simp only [ifCond.holds, cy, cn, beq_iff_eq, bne_iff_ne, ne_eq, decide_eq_true_eq, decide_eq_false_iff_not, beq_eq_false_iff_ne, bne_eq_false_iff_eq, Int32.not_lt, gt_iff_lt, ge_iff_le, Int32.not_le]
  · by_cases q : x = 0 <;> simp [q]
  · by_cases q : x = 0 <;> simp [q]
  · rcases Int32.lt_or_le x 0 with q | q <;> simp [q]
  · rcases Int32.lt_or_le x 0 with q | q <;> simp [q]
  · rcases Int32.lt_or_le 0 x with q | q <;> simp [q]
  · rcases Int32.lt_or_le 0 x with q | q <;> simp [q]
theorem Go.ifc (D : Amb κ l Z y code maxL ret rm h0 n0 Q) {cd : ClassFile.Cond} {o : Int} {x : Int32} (hd : decode code pc = .ok (.ifCond cd o, 3)) (ho : 0 ≤ (pc : Int) + o) (hp : ((pc : Int) + o).toNat = pc') (hp2 : pc + 3 = pc2)
    (Gt : cy cd x 0 → Go κ σ h ce sl pc' ls rest) (Gf : cn cd x 0 → Go κ σ h ce sl pc2 ls rest) : Go κ σ h ce sl pc ls (.int x :: rest) := by
  subst hp2
  rcases ifc_dec cd x with ⟨q1, q2⟩ | ⟨q1, q2⟩
  · exact Go.pure D (fun p e below T t m c hx hby hT k => XS.ifYes hT hx rfl rfl (hb hby hd) rfl q1 ho hp k) (Gt q2)
  · exact Go.pure D (fun p e below T t m c hx hby hT k => XS.ifNo hT hx rfl (hb hby hd) rfl q1 k) (Gf q2)
theorem Go.icmp (D : Amb κ l Z y code maxL ret rm h0 n0 Q) {cd : ClassFile.Cond} {o : Int} {x z : Int32} (hd : decode code pc = .ok (.if_icmp cd o, 3)) (ho : 0 ≤ (pc : Int) + o) (hp : ((pc : Int) + o).toNat = pc') (hp2 : pc + 3 = pc2)
    (Gt : cy cd x z → Go κ σ h ce sl pc' ls rest) (Gf : cn cd x z → Go κ σ h ce sl pc2 ls rest) : Go κ σ h ce sl pc ls (.int z :: .int x :: rest) := by
  subst hp2
  rcases icmp_dec cd x z with ⟨q1, q2⟩ | ⟨q1, q2⟩
  · exact Go.pure D (fun p e below T t m c hx hby hT k => XS.icmpYes hT hx rfl rfl (hb hby hd) rfl q1 ho hp k) (Gt q2)
  · exact Go.pure D (fun p e below T t m c hx hby hT k => XS.icmpNo hT hx rfl (hb hby hd) rfl q1 k) (Gf q2)
theorem Go.iloadN (D : Amb κ l Z y code maxL ret rm h0 n0 Q) {k : Fin 4} {v : Int32} (hd : decode code pc = .ok (.iload_n k, 1)) (hp : pc + 1 = pc') (hl : ls[k.val]? = some (.val (.int v))) (G : Go κ σ h ce sl pc' ls (.int v :: st)) : Go κ σ h ce sl pc ls (st) := by
  subst hp
  exact Go.pure D (fun p e below T t m c hx hby hT k' => XS.iloadN hT hx rfl (hb hby hd) hl k') G
theorem Go.iload (D : Amb κ l Z y code maxL ret rm h0 n0 Q) {k : Nat} {v : Int32} (hd : decode code pc = .ok (.iload k, 2)) (hp : pc + 2 = pc') (hl : ls[k]? = some (.val (.int v))) (G : Go κ σ h ce sl pc' ls (.int v :: st)) : Go κ σ h ce sl pc ls (st) := by
  subst hp
  exact Go.pure D (fun p e below T t m c hx hby hT k' => XS.iload hT hx rfl (hb hby hd) hl k') G
theorem Go.aloadN (D : Amb κ l Z y code maxL ret rm h0 n0 Q) {k : Fin 4} {v : Value} (hd : decode code pc = .ok (.aload_n k, 1)) (hp : pc + 1 = pc') (hl : ls[k.val]? = some (.val v)) (hv : v.isRef = true) (G : Go κ σ h ce sl pc' ls (v :: st)) : Go κ σ h ce sl pc ls (st) := by
  subst hp
  exact Go.pure D (fun p e below T t m c hx hby hT k' => XS.aloadN hT hx rfl (hb hby hd) hl hv k') G
theorem Go.aload (D : Amb κ l Z y code maxL ret rm h0 n0 Q) {k : Nat} {v : Value} (hd : decode code pc = .ok (.aload k, 2)) (hp : pc + 2 = pc') (hl : ls[k]? = some (.val v)) (hv : v.isRef = true) (G : Go κ σ h ce sl pc' ls (v :: st)) : Go κ σ h ce sl pc ls (st) := by
  subst hp
  exact Go.pure D (fun p e below T t m c hx hby hT k' => XS.aload hT hx rfl (hb hby hd) hl hv k') G
theorem Go.lloadN (D : Amb κ l Z y code maxL ret rm h0 n0 Q) {k : Fin 4} {v : Int64} (hd : decode code pc = .ok (.lload_n k, 1)) (hp : pc + 1 = pc') (hl : ls[k.val]? = some (.val (.long v))) (G : Go κ σ h ce sl pc' ls (.long v :: st)) : Go κ σ h ce sl pc ls (st) := by
  subst hp
  exact Go.pure D (fun p e below T t m c hx hby hT k' => XS.lloadN hT hx rfl (hb hby hd) hl k') G
theorem Go.lload (D : Amb κ l Z y code maxL ret rm h0 n0 Q) {k : Nat} {v : Int64} (hd : decode code pc = .ok (.lload k, 2)) (hp : pc + 2 = pc') (hl : ls[k]? = some (.val (.long v))) (G : Go κ σ h ce sl pc' ls (.long v :: st)) : Go κ σ h ce sl pc ls (st) := by
  subst hp
  exact Go.pure D (fun p e below T t m c hx hby hT k' => XS.lload hT hx rfl (hb hby hd) hl k') G
theorem Go.iconst (D : Amb κ l Z y code maxL ret rm h0 n0 Q) {i : Int} {v : Int32} (hd : decode code pc = .ok (.iconst i, 1)) (hp : pc + 1 = pc') (hv : Int32.ofInt i = v) (G : Go κ σ h ce sl pc' ls (.int v :: st)) : Go κ σ h ce sl pc ls (st) := by
  subst hp hv
  exact Go.pure D (fun p e below T t m c hx hby hT k' => XS.iconst hT hx rfl (hb hby hd) k') G
theorem Go.bipush (D : Amb κ l Z y code maxL ret rm h0 n0 Q) {i : Int} {v : Int32} (hd : decode code pc = .ok (.bipush i, 2)) (hp : pc + 2 = pc') (hv : (Int8.ofInt i).toInt32 = v) (G : Go κ σ h ce sl pc' ls (.int v :: st)) : Go κ σ h ce sl pc ls (st) := by
  subst hp hv
  exact Go.pure D (fun p e below T t m c hx hby hT k' => XS.bipush hT hx rfl (hb hby hd) k') G
theorem Go.sipush (D : Amb κ l Z y code maxL ret rm h0 n0 Q) {i : Int} {v : Int32} (hd : decode code pc = .ok (.sipush i, 3)) (hp : pc + 3 = pc') (hv : (Int16.ofInt i).toInt32 = v) (G : Go κ σ h ce sl pc' ls (.int v :: st)) : Go κ σ h ce sl pc ls (st) := by
  subst hp hv
  exact Go.pure D (fun p e below T t m c hx hby hT k' => XS.sipush hT hx rfl (hb hby hd) k') G
theorem Go.lconst (D : Amb κ l Z y code maxL ret rm h0 n0 Q) {k : Fin 2} {v : Int64} (hd : decode code pc = .ok (.lconst k, 1)) (hp : pc + 1 = pc') (hv : Int64.ofNat k = v) (G : Go κ σ h ce sl pc' ls (.long v :: st)) : Go κ σ h ce sl pc ls (st) := by
  subst hp hv
  exact Go.pure D (fun p e below T t m c hx hby hT k' => XS.lconst hT hx rfl (hb hby hd) k') G
theorem Go.aconstNull (D : Amb κ l Z y code maxL ret rm h0 n0 Q)  (hd : decode code pc = .ok (.aconst_null, 1)) (hp : pc + 1 = pc')  (G : Go κ σ h ce sl pc' ls (.null :: st)) : Go κ σ h ce sl pc ls (st) := by
  subst hp
  exact Go.pure D (fun p e below T t m c hx hby hT k' => XS.aconstNull hT hx rfl (hb hby hd) k') G
theorem Go.iadd (D : Amb κ l Z y code maxL ret rm h0 n0 Q) {x z : Int32} (hd : decode code pc = .ok (.iadd, 1)) (hp : pc + 1 = pc')  (G : Go κ σ h ce sl pc' ls (.int (x + z) :: rest)) : Go κ σ h ce sl pc ls (.int z :: .int x :: rest) := by
  subst hp
  exact Go.pure D (fun p e below T t m c hx hby hT k' => XS.iadd hT hx rfl (hb hby hd) rfl k') G
theorem Go.isub (D : Amb κ l Z y code maxL ret rm h0 n0 Q) {x z : Int32} (hd : decode code pc = .ok (.isub, 1)) (hp : pc + 1 = pc')  (G : Go κ σ h ce sl pc' ls (.int (x - z) :: rest)) : Go κ σ h ce sl pc ls (.int z :: .int x :: rest) := by
  subst hp
  exact Go.pure D (fun p e below T t m c hx hby hT k' => XS.isub hT hx rfl (hb hby hd) rfl k') G
theorem Go.iand (D : Amb κ l Z y code maxL ret rm h0 n0 Q) {x z : Int32} (hd : decode code pc = .ok (.iand, 1)) (hp : pc + 1 = pc')  (G : Go κ σ h ce sl pc' ls (.int (x &&& z) :: rest)) : Go κ σ h ce sl pc ls (.int z :: .int x :: rest) := by
  subst hp
  exact Go.pure D (fun p e below T t m c hx hby hT k' => XS.iand hT hx rfl (hb hby hd) rfl k') G
theorem Go.imul (D : Amb κ l Z y code maxL ret rm h0 n0 Q) {x z : Int32} (hd : decode code pc = .ok (.imul, 1)) (hp : pc + 1 = pc')  (G : Go κ σ h ce sl pc' ls (.int (x * z) :: rest)) : Go κ σ h ce sl pc ls (.int z :: .int x :: rest) := by
  subst hp
  exact Go.pure D (fun p e below T t m c hx hby hT k' => XS.imul hT hx rfl (hb hby hd) rfl k') G
theorem Go.ixor (D : Amb κ l Z y code maxL ret rm h0 n0 Q) {x z : Int32} (hd : decode code pc = .ok (.ixor, 1)) (hp : pc + 1 = pc')  (G : Go κ σ h ce sl pc' ls (.int (x ^^^ z) :: rest)) : Go κ σ h ce sl pc ls (.int z :: .int x :: rest) := by
  subst hp
  exact Go.pure D (fun p e below T t m c hx hby hT k' => XS.ixor hT hx rfl (hb hby hd) rfl k') G
theorem Go.ior (D : Amb κ l Z y code maxL ret rm h0 n0 Q) {x z : Int32} (hd : decode code pc = .ok (.ior, 1)) (hp : pc + 1 = pc')  (G : Go κ σ h ce sl pc' ls (.int (x ||| z) :: rest)) : Go κ σ h ce sl pc ls (.int z :: .int x :: rest) := by
  subst hp
  exact Go.pure D (fun p e below T t m c hx hby hT k' => XS.ior hT hx rfl (hb hby hd) rfl k') G
theorem Go.ishl (D : Amb κ l Z y code maxL ret rm h0 n0 Q) {x z : Int32} (hd : decode code pc = .ok (.ishl, 1)) (hp : pc + 1 = pc')  (G : Go κ σ h ce sl pc' ls (.int (x <<< (z &&& 31)) :: rest)) : Go κ σ h ce sl pc ls (.int z :: .int x :: rest) := by
  subst hp
  exact Go.pure D (fun p e below T t m c hx hby hT k' => XS.ishl hT hx rfl (hb hby hd) rfl k') G
theorem Go.ishr (D : Amb κ l Z y code maxL ret rm h0 n0 Q) {x z : Int32} (hd : decode code pc = .ok (.ishr, 1)) (hp : pc + 1 = pc')  (G : Go κ σ h ce sl pc' ls (.int (x >>> (z &&& 31)) :: rest)) : Go κ σ h ce sl pc ls (.int z :: .int x :: rest) := by
  subst hp
  exact Go.pure D (fun p e below T t m c hx hby hT k' => XS.ishr hT hx rfl (hb hby hd) rfl k') G
theorem Go.iushr (D : Amb κ l Z y code maxL ret rm h0 n0 Q) {x z : Int32} (hd : decode code pc = .ok (.iushr, 1)) (hp : pc + 1 = pc')  (G : Go κ σ h ce sl pc' ls (.int (ushr x z) :: rest)) : Go κ σ h ce sl pc ls (.int z :: .int x :: rest) := by
  subst hp
  exact Go.pure D (fun p e below T t m c hx hby hT k' => XS.iushr hT hx rfl (hb hby hd) rfl k') G
theorem Go.ladd (D : Amb κ l Z y code maxL ret rm h0 n0 Q) {x z : Int64} (hd : decode code pc = .ok (.ladd, 1)) (hp : pc + 1 = pc')  (G : Go κ σ h ce sl pc' ls (.long (x + z) :: rest)) : Go κ σ h ce sl pc ls (.long z :: .long x :: rest) := by
  subst hp
  exact Go.pure D (fun p e below T t m c hx hby hT k' => XS.ladd hT hx rfl (hb hby hd) rfl k') G
theorem Go.lsub (D : Amb κ l Z y code maxL ret rm h0 n0 Q) {x z : Int64} (hd : decode code pc = .ok (.lsub, 1)) (hp : pc + 1 = pc')  (G : Go κ σ h ce sl pc' ls (.long (x - z) :: rest)) : Go κ σ h ce sl pc ls (.long z :: .long x :: rest) := by
  subst hp
  exact Go.pure D (fun p e below T t m c hx hby hT k' => XS.lsub hT hx rfl (hb hby hd) rfl k') G
theorem Go.lmul (D : Amb κ l Z y code maxL ret rm h0 n0 Q) {x z : Int64} (hd : decode code pc = .ok (.lmul, 1)) (hp : pc + 1 = pc')  (G : Go κ σ h ce sl pc' ls (.long (x * z) :: rest)) : Go κ σ h ce sl pc ls (.long z :: .long x :: rest) := by
  subst hp
  exact Go.pure D (fun p e below T t m c hx hby hT k' => XS.lmul hT hx rfl (hb hby hd) rfl k') G
theorem Go.land (D : Amb κ l Z y code maxL ret rm h0 n0 Q) {x z : Int64} (hd : decode code pc = .ok (.land, 1)) (hp : pc + 1 = pc')  (G : Go κ σ h ce sl pc' ls (.long (x &&& z) :: rest)) : Go κ σ h ce sl pc ls (.long z :: .long x :: rest) := by
  subst hp
  exact Go.pure D (fun p e below T t m c hx hby hT k' => XS.land hT hx rfl (hb hby hd) rfl k') G
theorem Go.lor (D : Amb κ l Z y code maxL ret rm h0 n0 Q) {x z : Int64} (hd : decode code pc = .ok (.lor, 1)) (hp : pc + 1 = pc')  (G : Go κ σ h ce sl pc' ls (.long (x ||| z) :: rest)) : Go κ σ h ce sl pc ls (.long z :: .long x :: rest) := by
  subst hp
  exact Go.pure D (fun p e below T t m c hx hby hT k' => XS.lor hT hx rfl (hb hby hd) rfl k') G
theorem Go.lxor (D : Amb κ l Z y code maxL ret rm h0 n0 Q) {x z : Int64} (hd : decode code pc = .ok (.lxor, 1)) (hp : pc + 1 = pc')  (G : Go κ σ h ce sl pc' ls (.long (x ^^^ z) :: rest)) : Go κ σ h ce sl pc ls (.long z :: .long x :: rest) := by
  subst hp
  exact Go.pure D (fun p e below T t m c hx hby hT k' => XS.lxor hT hx rfl (hb hby hd) rfl k') G
theorem Go.lshl (D : Amb κ l Z y code maxL ret rm h0 n0 Q) {x : Int64} {z : Int32} (hd : decode code pc = .ok (.lshl, 1)) (hp : pc + 1 = pc')  (G : Go κ σ h ce sl pc' ls (.long (x <<< (z &&& 63).toInt64) :: rest)) : Go κ σ h ce sl pc ls (.int z :: .long x :: rest) := by
  subst hp
  exact Go.pure D (fun p e below T t m c hx hby hT k' => XS.lshl hT hx rfl (hb hby hd) rfl k') G
theorem Go.lshr (D : Amb κ l Z y code maxL ret rm h0 n0 Q) {x : Int64} {z : Int32} (hd : decode code pc = .ok (.lshr, 1)) (hp : pc + 1 = pc')  (G : Go κ σ h ce sl pc' ls (.long (x >>> (z &&& 63).toInt64) :: rest)) : Go κ σ h ce sl pc ls (.int z :: .long x :: rest) := by
  subst hp
  exact Go.pure D (fun p e below T t m c hx hby hT k' => XS.lshr hT hx rfl (hb hby hd) rfl k') G
theorem Go.lushr (D : Amb κ l Z y code maxL ret rm h0 n0 Q) {x : Int64} {z : Int32} (hd : decode code pc = .ok (.lushr, 1)) (hp : pc + 1 = pc')  (G : Go κ σ h ce sl pc' ls (.long (ushrL x z) :: rest)) : Go κ σ h ce sl pc ls (.int z :: .long x :: rest) := by
  subst hp
  exact Go.pure D (fun p e below T t m c hx hby hT k' => XS.lushr hT hx rfl (hb hby hd) rfl k') G
theorem Go.ineg (D : Amb κ l Z y code maxL ret rm h0 n0 Q) {x : Int32} (hd : decode code pc = .ok (.ineg, 1)) (hp : pc + 1 = pc')  (G : Go κ σ h ce sl pc' ls (.int (-x) :: rest)) : Go κ σ h ce sl pc ls (.int x :: rest) := by
  subst hp
  exact Go.pure D (fun p e below T t m c hx hby hT k' => XS.ineg hT hx rfl (hb hby hd) rfl k') G
theorem Go.lneg (D : Amb κ l Z y code maxL ret rm h0 n0 Q) {x : Int64} (hd : decode code pc = .ok (.lneg, 1)) (hp : pc + 1 = pc')  (G : Go κ σ h ce sl pc' ls (.long (-x) :: rest)) : Go κ σ h ce sl pc ls (.long x :: rest) := by
  subst hp
  exact Go.pure D (fun p e below T t m c hx hby hT k' => XS.lneg hT hx rfl (hb hby hd) rfl k') G
theorem Go.i2l (D : Amb κ l Z y code maxL ret rm h0 n0 Q) {x : Int32} (hd : decode code pc = .ok (.i2l, 1)) (hp : pc + 1 = pc')  (G : Go κ σ h ce sl pc' ls (.long (x.toInt64) :: rest)) : Go κ σ h ce sl pc ls (.int x :: rest) := by
  subst hp
  exact Go.pure D (fun p e below T t m c hx hby hT k' => XS.i2l hT hx rfl (hb hby hd) rfl k') G
theorem Go.l2i (D : Amb κ l Z y code maxL ret rm h0 n0 Q) {x : Int64} (hd : decode code pc = .ok (.l2i, 1)) (hp : pc + 1 = pc')  (G : Go κ σ h ce sl pc' ls (.int (x.toInt32) :: rest)) : Go κ σ h ce sl pc ls (.long x :: rest) := by
  subst hp
  exact Go.pure D (fun p e below T t m c hx hby hT k' => XS.l2i hT hx rfl (hb hby hd) rfl k') G
theorem Go.i2b (D : Amb κ l Z y code maxL ret rm h0 n0 Q) {x : Int32} (hd : decode code pc = .ok (.i2b, 1)) (hp : pc + 1 = pc')  (G : Go κ σ h ce sl pc' ls (.int (x.toInt8.toInt32) :: rest)) : Go κ σ h ce sl pc ls (.int x :: rest) := by
  subst hp
  exact Go.pure D (fun p e below T t m c hx hby hT k' => XS.i2b hT hx rfl (hb hby hd) rfl k') G
theorem Go.i2c (D : Amb κ l Z y code maxL ret rm h0 n0 Q) {x : Int32} (hd : decode code pc = .ok (.i2c, 1)) (hp : pc + 1 = pc')  (G : Go κ σ h ce sl pc' ls (.int (x.toUInt32.toUInt16.toUInt32.toInt32) :: rest)) : Go κ σ h ce sl pc ls (.int x :: rest) := by
  subst hp
  exact Go.pure D (fun p e below T t m c hx hby hT k' => XS.i2c hT hx rfl (hb hby hd) rfl k') G
theorem Go.lcmp (D : Amb κ l Z y code maxL ret rm h0 n0 Q) {x z : Int64} (hd : decode code pc = .ok (.lcmp, 1)) (hp : pc + 1 = pc')  (G : Go κ σ h ce sl pc' ls (.int (cmpL x z) :: rest)) : Go κ σ h ce sl pc ls (.long z :: .long x :: rest) := by
  subst hp
  exact Go.pure D (fun p e below T t m c hx hby hT k' => XS.lcmp hT hx rfl (hb hby hd) rfl k') G
theorem Go.dup (D : Amb κ l Z y code maxL ret rm h0 n0 Q) {x : Value} (hd : decode code pc = .ok (.dup, 1)) (hp : pc + 1 = pc') (hc : x.category = 1) (G : Go κ σ h ce sl pc' ls (x :: x :: rest)) : Go κ σ h ce sl pc ls (x :: rest) := by
  subst hp
  exact Go.pure D (fun p e below T t m c hx hby hT k' => XS.dup hT hx rfl (hb hby hd) rfl hc k') G
theorem Go.pop (D : Amb κ l Z y code maxL ret rm h0 n0 Q) {x : Value} (hd : decode code pc = .ok (.pop, 1)) (hp : pc + 1 = pc') (hc : x.category = 1) (G : Go κ σ h ce sl pc' ls (rest)) : Go κ σ h ce sl pc ls (x :: rest) := by
  subst hp
  exact Go.pure D (fun p e below T t m c hx hby hT k' => XS.pop hT hx rfl (hb hby hd) rfl hc k') G
theorem Go.dupX1 (D : Amb κ l Z y code maxL ret rm h0 n0 Q) {x z : Value} (hd : decode code pc = .ok (.dup_x1, 1)) (hp : pc + 1 = pc') (hc : x.category = 1) (hc' : z.category = 1) (G : Go κ σ h ce sl pc' ls (x :: z :: x :: rest)) : Go κ σ h ce sl pc ls (x :: z :: rest) := by
  subst hp
  exact Go.pure D (fun p e below T t m c hx hby hT k' => XS.dupX1 hT hx rfl (hb hby hd) rfl hc hc' k') G
theorem Go.dup2 (D : Amb κ l Z y code maxL ret rm h0 n0 Q) {x z : Value} (hd : decode code pc = .ok (.dup2, 1)) (hp : pc + 1 = pc') (hc : x.category = 1) (hc' : z.category = 1) (G : Go κ σ h ce sl pc' ls (x :: z :: x :: z :: rest)) : Go κ σ h ce sl pc ls (x :: z :: rest) := by
  subst hp
  exact Go.pure D (fun p e below T t m c hx hby hT k' => XT.dup2 hT hx rfl (hb hby hd) rfl hc hc' k') G
theorem Go.dup2L (D : Amb κ l Z y code maxL ret rm h0 n0 Q) {x : Int64} (hd : decode code pc = .ok (.dup2, 1)) (hp : pc + 1 = pc')  (G : Go κ σ h ce sl pc' ls (.long x :: .long x :: rest)) : Go κ σ h ce sl pc ls (.long x :: rest) := by
  subst hp
  exact Go.pure D (fun p e below T t m c hx hby hT k' => XT.dup2L hT hx rfl (hb hby hd) rfl k') G
theorem Go.istoreN (D : Amb κ l Z y code maxL ret rm h0 n0 Q) {k : Fin 4} {x : Int32} (hd : decode code pc = .ok (.istore_n k, 1)) (hp : pc + 1 = pc') (hl : storeLocals ls k.val (.int x) = some ls') (G : Go κ σ h ce sl pc' ls' rest) : Go κ σ h ce sl pc ls (.int x :: rest) := by
  subst hp
  exact Go.pure D (fun p e below T t m c hx hby hT k' => XS.istoreN hT hx rfl (hb hby hd) rfl hl k') G
theorem Go.istore (D : Amb κ l Z y code maxL ret rm h0 n0 Q) {k : Nat} {x : Int32} (hd : decode code pc = .ok (.istore k, 2)) (hp : pc + 2 = pc') (hl : storeLocals ls k (.int x) = some ls') (G : Go κ σ h ce sl pc' ls' rest) : Go κ σ h ce sl pc ls (.int x :: rest) := by
  subst hp
  exact Go.pure D (fun p e below T t m c hx hby hT k' => XS.istore hT hx rfl (hb hby hd) rfl hl k') G
theorem Go.astoreN (D : Amb κ l Z y code maxL ret rm h0 n0 Q) {k : Fin 4} {x : Value} (hd : decode code pc = .ok (.astore_n k, 1)) (hp : pc + 1 = pc') (hv : x.isRef = true) (hl : storeLocals ls k.val x = some ls') (G : Go κ σ h ce sl pc' ls' rest) : Go κ σ h ce sl pc ls (x :: rest) := by
  subst hp
  exact Go.pure D (fun p e below T t m c hx hby hT k' => XS.astoreN hT hx rfl (hb hby hd) rfl hv hl k') G
theorem Go.astore (D : Amb κ l Z y code maxL ret rm h0 n0 Q) {k : Nat} {x : Value} (hd : decode code pc = .ok (.astore k, 2)) (hp : pc + 2 = pc') (hv : x.isRef = true) (hl : storeLocals ls k x = some ls') (G : Go κ σ h ce sl pc' ls' rest) : Go κ σ h ce sl pc ls (x :: rest) := by
  subst hp
  exact Go.pure D (fun p e below T t m c hx hby hT k' => XS.astore hT hx rfl (hb hby hd) rfl hv hl k') G
theorem Go.lstoreN (D : Amb κ l Z y code maxL ret rm h0 n0 Q) {k : Fin 4} {x : Int64} (hd : decode code pc = .ok (.lstore_n k, 1)) (hp : pc + 1 = pc') (hl : storeLocals ls k.val (.long x) = some ls') (G : Go κ σ h ce sl pc' ls' rest) : Go κ σ h ce sl pc ls (.long x :: rest) := by
  subst hp
  exact Go.pure D (fun p e below T t m c hx hby hT k' => XS.lstoreN hT hx rfl (hb hby hd) rfl hl k') G
theorem Go.lstore (D : Amb κ l Z y code maxL ret rm h0 n0 Q) {k : Nat} {x : Int64} (hd : decode code pc = .ok (.lstore k, 2)) (hp : pc + 2 = pc') (hl : storeLocals ls k (.long x) = some ls') (G : Go κ σ h ce sl pc' ls' rest) : Go κ σ h ce sl pc ls (.long x :: rest) := by
  subst hp
  exact Go.pure D (fun p e below T t m c hx hby hT k' => XS.lstore hT hx rfl (hb hby hd) rfl hl k') G
theorem Go.iinc (D : Amb κ l Z y code maxL ret rm h0 n0 Q) {k : Nat} {cst : Int} {x d : Int32} (hd : decode code pc = .ok (.iinc k cst, 3)) (hp : pc + 3 = pc') (hl : ls[k]? = some (.val (.int x))) (hv : Int32.ofInt cst = d) (hl' : storeLocals ls k (.int (x + d)) = some ls') (G : Go κ σ h ce sl pc' ls' st) : Go κ σ h ce sl pc ls st := by
  subst hp hv
  exact Go.pure D (fun p e below T t m c hx hby hT k' => XS.iinc hT hx rfl (hb hby hd) hl hl' k') G
theorem Go.istoreU (D : Amb κ l Z y code maxL ret rm h0 n0 Q) {k : Nat} {x : Int32} {o : Slot} (hd : decode code pc = .ok (.istore k, 2)) (hp : pc + 2 = pc') (hold : ls[k]? = some o) (ho : o = .unset ∨ ∃ w, o = .val w ∧ w.category = 1) (hl : ls.setIfInBounds k (.val (.int x)) = ls') (G : Go κ σ h ce sl pc' ls' rest) : Go κ σ h ce sl pc ls (.int x :: rest) := by
  subst hp hl
  exact Go.pure D (fun p e below T t m c hx hby hT k' => XS.istoreS hT hx rfl (hb hby hd) rfl hold ho k') G
theorem Go.istoreNU (D : Amb κ l Z y code maxL ret rm h0 n0 Q) {k : Fin 4} {x : Int32} {o : Slot} (hd : decode code pc = .ok (.istore_n k, 1)) (hp : pc + 1 = pc') (hold : ls[k.val]? = some o) (ho : o = .unset ∨ ∃ w, o = .val w ∧ w.category = 1) (hl : ls.setIfInBounds k.val (.val (.int x)) = ls') (G : Go κ σ h ce sl pc' ls' rest) : Go κ σ h ce sl pc ls (.int x :: rest) := by
  subst hp hl
  exact Go.pure D (fun p e below T t m c hx hby hT k' => XS.istoreNS hT hx rfl (hb hby hd) rfl hold ho k') G
theorem Go.astoreU (D : Amb κ l Z y code maxL ret rm h0 n0 Q) {k : Nat} {x : Value} {o : Slot} (hd : decode code pc = .ok (.astore k, 2)) (hp : pc + 2 = pc') (hv : x.isRef = true) (hc : x.category = 1) (hold : ls[k]? = some o) (ho : o = .unset ∨ ∃ w, o = .val w ∧ w.category = 1) (hl : ls.setIfInBounds k (.val x) = ls') (G : Go κ σ h ce sl pc' ls' rest) : Go κ σ h ce sl pc ls (x :: rest) := by
  subst hp hl
  exact Go.pure D (fun p e below T t m c hx hby hT k' => XS.astoreS hT hx rfl (hb hby hd) rfl hv hc hold ho k') G
theorem Go.goto (D : Amb κ l Z y code maxL ret rm h0 n0 Q) {o : Int} (hd : decode code pc = .ok (.goto o, 3)) (ho : 0 ≤ (pc : Int) + o) (hp : ((pc : Int) + o).toNat = pc') (G : Go κ σ h ce sl pc' ls st) : Go κ σ h ce sl pc ls st :=
  Go.pure D (fun p e below T t m c hx hby hT k' => XS.goto hT hx rfl rfl (hb hby hd) ho hp k') G
theorem Go.ifnullY (D : Amb κ l Z y code maxL ret rm h0 n0 Q) {o : Int} (hd : decode code pc = .ok (.ifnull o, 3)) (ho : 0 ≤ (pc : Int) + o) (hp : ((pc : Int) + o).toNat = pc') (G : Go κ σ h ce sl pc' ls rest) : Go κ σ h ce sl pc ls (.null :: rest) :=
  Go.pure D (fun p e below T t m c hx hby hT k' => XS.ifnullYes hT hx rfl rfl (hb hby hd) rfl ho hp k') G
theorem Go.ifnullN (D : Amb κ l Z y code maxL ret rm h0 n0 Q) {o : Int} {b : Addr} (hd : decode code pc = .ok (.ifnull o, 3)) (hp : pc + 3 = pc') (G : Go κ σ h ce sl pc' ls rest) : Go κ σ h ce sl pc ls (.ref b :: rest) := by
  subst hp
  exact Go.pure D (fun p e below T t m c hx hby hT k' => XS.ifnullNo hT hx rfl (hb hby hd) rfl k') G
theorem Go.ifnonnullY (D : Amb κ l Z y code maxL ret rm h0 n0 Q) {o : Int} {b : Addr} (hd : decode code pc = .ok (.ifnonnull o, 3)) (ho : 0 ≤ (pc : Int) + o) (hp : ((pc : Int) + o).toNat = pc') (G : Go κ σ h ce sl pc' ls rest) : Go κ σ h ce sl pc ls (.ref b :: rest) :=
  Go.pure D (fun p e below T t m c hx hby hT k' => XS.ifnonnullYes hT hx rfl rfl (hb hby hd) rfl ho hp k') G
theorem Go.ifnonnullN (D : Amb κ l Z y code maxL ret rm h0 n0 Q) {o : Int} (hd : decode code pc = .ok (.ifnonnull o, 3)) (hp : pc + 3 = pc') (G : Go κ σ h ce sl pc' ls rest) : Go κ σ h ce sl pc ls (.null :: rest) := by
  subst hp
  exact Go.pure D (fun p e below T t m c hx hby hT k' => XS.ifnonnullNo hT hx rfl (hb hby hd) rfl k') G
theorem Go.irem (D : Amb κ l Z y code maxL ret rm h0 n0 Q) {x z : Int32} (hd : decode code pc = .ok (.irem, 1)) (hp : pc + 1 = pc') (hz : z ≠ 0) (G : Go κ σ h ce sl pc' ls (.int (x % z) :: rest)) : Go κ σ h ce sl pc ls (.int z :: .int x :: rest) := by
  subst hp
  exact Go.calm D (fun p e s m args below meth c T locs hx hZ hown hby hml hh X eT => ⟨T, X, eT, fun t k => iremM X hx rfl (hb hby hd) rfl hz k⟩) G
theorem Go.ldcInt (D : Amb κ l Z y code maxL ret rm h0 n0 Q) {idx : Nat} {v : Int32} (w : (Jvm.Cond.constant y.cls idx v).before a0 Z = true) (hd : decode code pc = .ok (.ldc idx, 2)) (hp : pc + 2 = pc') (G : Go κ σ h ce sl pc' ls (.int v :: st)) : Go κ σ h ce sl pc ls st := by
  subst hp
  exact Go.calm D (fun p e s m args below meth c T locs hx hZ hown hby hml hh X eT => ⟨T, X, eT, X.ldcInt hx hown (mvT hZ w) (g := mkF m pc ls st) rfl (hb hby hd)⟩) G
theorem Go.ldc2Long (D : Amb κ l Z y code maxL ret rm h0 n0 Q) {idx : Nat} {v : Int64} (w : (Jvm.Cond.constantLong y.cls idx v).before a0 Z = true) (hd : decode code pc = .ok (.ldc2_w idx, 3)) (hp : pc + 3 = pc') (G : Go κ σ h ce sl pc' ls (.long v :: st)) : Go κ σ h ce sl pc ls st := by
  subst hp
  exact Go.calm D (fun p e s m args below meth c T locs hx hZ hown hby hml hh X eT => ⟨T, X, eT, X.ldc2Long hx hown (mvT hZ w) (g := mkF m pc ls st) rfl (hb hby hd)⟩) G
/-! fields -/
theorem Go.getF (D : Amb κ l Z y code maxL ret rm h0 n0 Q) {idx : Nat} {n d : String} {a : Addr} {v : Value} {O : String} (w : (Jvm.Cond.fieldLink y.cls idx O n d).before a0 Z = true) (hd : decode code pc = .ok (.getfield idx, 3)) (hp : pc + 3 = pc') (F : Fld Z h a O n d v) (G : Go κ σ h ce sl pc' ls (v :: rest)) : Go κ σ h ce sl pc ls (.ref a :: rest) := by
  subst hp
  exact Go.calm D (fun p e s m args below meth c T locs hx hZ hown hby hml hh X eT => Jvm.RoadKit.getF X hx hZ hown (host := "") (Or.inl w) Via.refl eT F (g := mkF m pc ls (.ref a :: rest)) rfl rfl (hb hby hd)) G
theorem Go.getFN (D : Amb κ l Z y code maxL ret rm h0 n0 Q) {idx : Nat} {n d host : String} {a : Addr} {v : Value} {O : String} (w : (Jvm.Cond.fieldLinkNest y.cls idx O n d host).before a0 Z = true) (hd : decode code pc = .ok (.getfield idx, 3)) (hp : pc + 3 = pc') (F : Fld Z h a O n d v) (G : Go κ σ h ce sl pc' ls (v :: rest)) : Go κ σ h ce sl pc ls (.ref a :: rest) := by
  subst hp
  exact Go.calm D (fun p e s m args below meth c T locs hx hZ hown hby hml hh X eT => Jvm.RoadKit.getF X hx hZ hown (host := host) (Or.inr w) Via.refl eT F (g := mkF m pc ls (.ref a :: rest)) rfl rfl (hb hby hd)) G
theorem Go.putF (D : Amb κ l Z y code maxL ret rm h0 n0 Q) {idx kk : Nat} {n d C O : String} {ty : FieldType} {a : Addr} {v old : Value} (w : (Jvm.Cond.fieldLink y.cls idx O n d).before a0 Z = true) (hd : decode code pc = .ok (.putfield idx, 3)) (hp : pc + 3 = pc') (F : Fld Z h a O n d old) (E : Exa Z h a C)
    (L : (Jvm.Cond.lays C O n d).before a0 Z = true ∨ ((Jvm.Cond.laysFinal C O n d).before a0 Z = true ∧ y.cls = O ∧ y.name = "<init>")) (wi : (Jvm.Cond.instantiable C kk).before a0 Z = true) (hty : parseFieldDescriptor d = some ty) (hn : narrow ty v = v) (hf : fits ty v = true) (ge : n0 ≤ a)
    (G : ∀ h', Wr h h' a (Jvm.RoadKit.slotOf Z O n d) v → Go κ σ h' ce sl pc' ls rest) : Go κ σ h ce sl pc ls (v :: .ref a :: rest) := by
  subst hp
  refine Go.turn D (fun p e s m args below meth c T locs hx hZ hown hby hml hnm X eT N => ?_) G
  obtain ⟨T', h1, X', e', W, k⟩ := Jvm.RoadKit.putF X hx hZ hown (host := "") (Or.inl w) Via.refl eT F E (L.imp id fun q => ⟨q.1, q.2.1, hnm.trans q.2.2⟩) wi hty hn hf (g := mkF m pc ls (v :: .ref a :: rest)) rfl rfl (hb hby hd)
  exact ⟨T', _, h1, X', e', Fr.snoc X' N ge, Gw.one (Keep.of_wr W) ge, W, k⟩
/-! new -/
theorem Go.newO (D : Amb κ l Z y code maxL ret rm h0 n0 Q) {idx n : Nat} {C : String} (w : (Jvm.Cond.classLink y.cls idx C).before a0 Z = true) (wi : (Jvm.Cond.instantiable C n).before a0 Z = true) (wz : (Jvm.Cond.initialized C).before a0 Z = true) (hd : decode code pc = .ok (.new idx, 3)) (hp : pc + 3 = pc') (hce : ce + 1 = ce') (hsl : sl + n = sl') (hc : ce' ≤ rm.cells) (hs : sl' ≤ rm.slots)
    (G : ∀ h' a, a = h.size → Ext h h' → Exa Z h' a C → (∀ {O nm d : String} {ty : FieldType}, Laid Z a0 C O nm d → parseFieldDescriptor d = some ty → Fld Z h' a O nm d (defaultValue ty)) → Go κ σ h' ce' sl' pc' ls (.ref a :: st)) : Go κ σ h ce sl pc ls st := by
  subst hp hce hsl
  refine Go.turn D (P := fun h' => Ext h h' ∧ Exa Z h' h.size C ∧ (∀ {O nm d : String} {ty : FieldType}, Laid Z a0 C O nm d → parseFieldDescriptor d = some ty → Fld Z h' h.size O nm d (defaultValue ty))) (fun p e s m args below meth c T locs hx hZ hown hby hml hnm X eT N => ?_) (fun h' q => G h' _ rfl q.1 q.2.1 q.2.2)
  obtain ⟨T', h1, X', e', E, A, F, -, k⟩ := Jvm.RoadKit.newO X hx hZ hown w wi wz eT (g := mkF m pc ls st) rfl (hb hby hd) hc hs
  exact ⟨T', _, h1, X', e', N, Gw.ext E, ⟨E, A, F⟩, k⟩
theorem Go.newP (D : Amb κ l Z y code maxL ret rm h0 n0 Q) {aty : ArrayType} {n : Int32} {cap : Nat} (w : (Jvm.Cond.arrayClass (newarray.typeOf aty)).before a0 Z = true) (hd : decode code pc = .ok (.newarray aty, 2)) (hp : pc + 2 = pc') (hn : ¬ n < 0) (hcap : n.toNatClampNeg ≤ cap) (hb' : cap * 8 ≤ 536870912) (hce : ce + 1 = ce') (hsl : sl + cap = sl') (hc : ce' ≤ rm.cells) (hs : sl' ≤ rm.slots)
    (G : ∀ h' a k, a = h.size → Ext h h' → Arv Z h' a k (newarray.typeOf aty) n [] (defaultValue (newarray.typeOf aty)) → Go κ σ h' ce' sl' pc' ls (.ref a :: rest)) : Go κ σ h ce sl pc ls (.int n :: rest) := by
  subst hp hce hsl
  refine Go.turn D (P := fun h' => ∃ k, Ext h h' ∧ Arv Z h' h.size k (newarray.typeOf aty) n [] (defaultValue (newarray.typeOf aty))) (fun p e s m args below meth c T locs hx hZ hown hby hml hnm X eT N => ?_) (fun h' q => by obtain ⟨k, q1, q2⟩ := q; exact G h' _ k rfl q1 q2)
  obtain ⟨T', h1, k, X', e', E, A, st'⟩ := Jvm.RoadKit.newP X hx hZ w eT (g := mkF m pc ls (.int n :: rest)) rfl (hb hby hd) rfl hn hcap hb' hc hs
  exact ⟨T', _, h1, X', e', N, Gw.ext E, ⟨k, E, Arv.new A hn⟩, st'⟩
theorem Go.initO (D : Amb κ l Z y code maxL ret rm h0 n0 Q) {idx : Nat} {a : Addr} (w1 : (Jvm.Cond.methodLink y.cls idx Lib.objectInit).before a0 Z = true) (w2 : (Jvm.Cond.instanceMethod Lib.objectInit).before a0 Z = true) (w3 : (Jvm.Cond.code Lib.objectInit ⟨#[0xb1]⟩ 1 none).before a0 Z = true) (hd : decode code pc = .ok (.invokespecial idx, 3)) (hp : pc + 3 = pc') (hls : ls.size = maxL) (hf : 1 ≤ rm.frames) {W : Nat} (hW : (rest.map fun v => v.category).sum = W) (hl : W + 12 ≤ rm.locals)
    (G : Go κ σ h ce sl pc' ls rest) : Go κ σ h ce sl pc ls (.ref a :: rest) := by
  subst hp
  exact Go.calm D (fun p e s m args below meth c T locs hx hZ hown hby hml hh X eT => Jvm.RoadKit.initO X hx hZ hown w1 w2 w3 eT (g := mkF m pc ls (.ref a :: rest)) rfl (hls.trans hml.symm) rfl (hb hby hd) hf (W := W) (by show 2 * 0 + _ ≤ _; rw [hW]; omega) hl) G
/-! arrays -/
section Arrays
variable {a : Addr} {k : ClassId} {n j : Int32} {vs : List Value} {dv v : Value}
theorem Go.alen (D : Amb κ l Z y code maxL ret rm h0 n0 Q) {ty : FieldType} (hd : decode code pc = .ok (.arraylength, 1)) (hp : pc + 1 = pc') (A : Arv Z h a k ty n vs dv) (G : Go κ σ h ce sl pc' ls (.int n :: rest)) : Go κ σ h ce sl pc ls (.ref a :: rest) := by
  subst hp
  obtain ⟨c', A1, A2, A3, A4, A5, A6⟩ := A
  refine Go.calm D (fun p e s m args below meth c T locs hx hZ hown hby hml hh X eT => ⟨T, X, eT, fun t q => ?_⟩) G
  refine X.arraylength hx (by rw [eT]; exact A1.1) (State.isArrayOf_alike hZ.alike A1.2.1) (g := mkF m pc ls (.ref a :: rest)) rfl rfl (hb hby hd) t ?_
  rw [len_of A3 A4]; exact q
theorem Go.iaload (D : Amb κ l Z y code maxL ret rm h0 n0 Q) (hd : decode code pc = .ok (.iaload, 1)) (hp : pc + 1 = pc') (A : Arv Z h a k .int n vs dv) (h1 : ¬ j < 0) (h2 : j < n) (hv : vs.getD j.toNatClampNeg dv = v) (G : Go κ σ h ce sl pc' ls (v :: rest)) : Go κ σ h ce sl pc ls (.int j :: .ref a :: rest) := by
  subst hp
  obtain ⟨c', A1, A2, A3, A4, A5, A6, A7⟩ := A.inb h1 h2
  exact Go.calm D (fun p e s m args below meth c T locs hx hZ hown hby hml hh X eT => ⟨T, X, eT, fun t q => X.iaload hx (by rw [eT]; exact A1.1) (State.isArrayOf_alike hZ.alike A1.2.1) A1.2.2 A7 (A5.at A7 hv) (g := mkF m pc ls (.int j :: .ref a :: rest)) rfl rfl (hb hby hd) t q⟩) G
theorem Go.caload (D : Amb κ l Z y code maxL ret rm h0 n0 Q) (hd : decode code pc = .ok (.caload, 1)) (hp : pc + 1 = pc') (A : Arv Z h a k .char n vs dv) (h1 : ¬ j < 0) (h2 : j < n) (hv : vs.getD j.toNatClampNeg dv = v) (G : Go κ σ h ce sl pc' ls (v :: rest)) : Go κ σ h ce sl pc ls (.int j :: .ref a :: rest) := by
  subst hp
  obtain ⟨c', A1, A2, A3, A4, A5, A6, A7⟩ := A.inb h1 h2
  exact Go.calm D (fun p e s m args below meth c T locs hx hZ hown hby hml hh X eT => ⟨T, X, eT, fun t q => X.caload hx (by rw [eT]; exact A1.1) (State.isArrayOf_alike hZ.alike A1.2.1) A1.2.2 A7 (A5.at A7 hv) (g := mkF m pc ls (.int j :: .ref a :: rest)) rfl rfl (hb hby hd) t q⟩) G
theorem Go.baload (D : Amb κ l Z y code maxL ret rm h0 n0 Q) (hd : decode code pc = .ok (.baload, 1)) (hp : pc + 1 = pc') (A : Arv Z h a k .byte n vs dv) (h1 : ¬ j < 0) (h2 : j < n) (hv : vs.getD j.toNatClampNeg dv = v) (G : Go κ σ h ce sl pc' ls (v :: rest)) : Go κ σ h ce sl pc ls (.int j :: .ref a :: rest) := by
  subst hp
  obtain ⟨c', A1, A2, A3, A4, A5, A6, A7⟩ := A.inb h1 h2
  exact Go.calm D (fun p e s m args below meth c T locs hx hZ hown hby hml hh X eT => ⟨T, X, eT, fun t q => X.baloadBytes hx (by rw [eT]; exact A1.1) (State.isArrayOf_alike hZ.alike A1.2.1) A1.2.2 A7 (A5.at A7 hv) (g := mkF m pc ls (.int j :: .ref a :: rest)) rfl rfl (hb hby hd) t q⟩) G
theorem Go.iastore (D : Amb κ l Z y code maxL ret rm h0 n0 Q) {x : Int32} {i : Nat} (hd : decode code pc = .ok (.iastore, 1)) (hp : pc + 1 = pc') (A : Arv Z h a k .int n vs dv) (h1 : ¬ j < 0) (h2 : j < n) (hj : j.toNatClampNeg = i) (hi : i < vs.length) (ge : n0 ≤ a)
    (G : ∀ h', Keep h h' [a] → Arv Z h' a k .int n (vs.set i (.int x)) dv → Go κ σ h' ce sl pc' ls rest) : Go κ σ h ce sl pc ls (.int x :: .int j :: .ref a :: rest) := by
  subst hp
  obtain ⟨c', A1, A2, A3, A4, A5, A6, A7⟩ := A.inb h1 h2
  refine Go.turn D (P := fun h' => Keep h h' [a] ∧ Arv Z h' a k .int n (vs.set i (.int x)) dv) (fun p e s m args below meth c T locs hx hZ hown hby hml hnm X eT N => ?_) (fun h' q => G h' q.1 q.2)
  obtain ⟨T', h1, X', e', W, q⟩ := stI X hx hZ eT A1 A7 (g := mkF m pc ls (.int x :: .int j :: .ref a :: rest)) rfl rfl (hb hby hd)
  exact ⟨T', _, h1, X', e', Fr.snoc X' N ge, Gw.one (Keep.of_wr W) ge, ⟨Keep.of_wr W, Arv.set A1 A2 A3 A4 A5 A6 rfl W i hj hi⟩, q⟩
theorem Go.castore (D : Amb κ l Z y code maxL ret rm h0 n0 Q) {x x' : Int32} {i : Nat} (hd : decode code pc = .ok (.castore, 1)) (hp : pc + 1 = pc') (A : Arv Z h a k .char n vs dv) (h1 : ¬ j < 0) (h2 : j < n) (hj : j.toNatClampNeg = i) (hi : i < vs.length) (ge : n0 ≤ a) (hx' : nar .char x = x')
    (G : ∀ h', Keep h h' [a] → Arv Z h' a k .char n (vs.set i (.int x')) dv → Go κ σ h' ce sl pc' ls rest) : Go κ σ h ce sl pc ls (.int x :: .int j :: .ref a :: rest) := by
  subst hp hx'
  obtain ⟨c', A1, A2, A3, A4, A5, A6, A7⟩ := A.inb h1 h2
  refine Go.turn D (P := fun h' => Keep h h' [a] ∧ Arv Z h' a k .char n (vs.set i (.int (nar .char x))) dv) (fun p e s m args below meth c T locs hx hZ hown hby hml hnm X eT N => ?_) (fun h' q => G h' q.1 q.2)
  obtain ⟨T', h1, X', e', W, q⟩ := stC X hx hZ eT A1 A7 (g := mkF m pc ls (.int x :: .int j :: .ref a :: rest)) rfl rfl (hb hby hd)
  exact ⟨T', _, h1, X', e', Fr.snoc X' N ge, Gw.one (Keep.of_wr W) ge, ⟨Keep.of_wr W, Arv.set A1 A2 A3 A4 A5 A6 (fits_nar_char x) W i hj hi⟩, q⟩
theorem Go.bastore (D : Amb κ l Z y code maxL ret rm h0 n0 Q) {x x' : Int32} {i : Nat} (hd : decode code pc = .ok (.bastore, 1)) (hp : pc + 1 = pc') (A : Arv Z h a k .byte n vs dv) (h1 : ¬ j < 0) (h2 : j < n) (hj : j.toNatClampNeg = i) (hi : i < vs.length) (ge : n0 ≤ a) (hx' : nar .byte x = x')
    (G : ∀ h', Keep h h' [a] → Arv Z h' a k .byte n (vs.set i (.int x')) dv → Go κ σ h' ce sl pc' ls rest) : Go κ σ h ce sl pc ls (.int x :: .int j :: .ref a :: rest) := by
  subst hp hx'
  obtain ⟨c', A1, A2, A3, A4, A5, A6, A7⟩ := A.inb h1 h2
  refine Go.turn D (P := fun h' => Keep h h' [a] ∧ Arv Z h' a k .byte n (vs.set i (.int (nar .byte x))) dv) (fun p e s m args below meth c T locs hx hZ hown hby hml hnm X eT N => ?_) (fun h' q => G h' q.1 q.2)
  obtain ⟨T', h1, X', e', W, q⟩ := stB X hx hZ eT A1 A7 (g := mkF m pc ls (.int x :: .int j :: .ref a :: rest)) rfl rfl (hb hby hd)
  exact ⟨T', _, h1, X', e', Fr.snoc X' N ge, Gw.one (Keep.of_wr W) ge, ⟨Keep.of_wr W, Arv.set A1 A2 A3 A4 A5 A6 (fits_nar_byte x) W i hj hi⟩, q⟩
end Arrays
/-! classes of objects -/
theorem Go.castY (D : Amb κ l Z y code maxL ret rm h0 n0 Q) {idx : Nat} {K : String} {a : Addr} (w : (Jvm.Cond.classLink y.cls idx K).before a0 Z = true) (hd : decode code pc = .ok (.checkcast idx, 3)) (hp : pc + 3 = pc') (F : Ins Z h a K true) (G : Go κ σ h ce sl pc' ls (.ref a :: rest)) : Go κ σ h ce sl pc ls (.ref a :: rest) := by
  subst hp
  exact Go.calm D (fun p e s m args below meth c T locs hx hZ hown hby hml hh X eT => Jvm.RoadKit.castY X hx hZ hown w eT F (g := mkF m pc ls (.ref a :: rest)) rfl rfl (hb hby hd)) G
theorem Go.instY (D : Amb κ l Z y code maxL ret rm h0 n0 Q) {idx : Nat} {K : String} {a : Addr} (w : (Jvm.Cond.classLink y.cls idx K).before a0 Z = true) (hd : decode code pc = .ok (.instanceof idx, 3)) (hp : pc + 3 = pc') (F : Ins Z h a K true) (G : Go κ σ h ce sl pc' ls (.int 1 :: rest)) : Go κ σ h ce sl pc ls (.ref a :: rest) := by
  subst hp
  exact Go.calm D (fun p e s m args below meth c T locs hx hZ hown hby hml hh X eT => Jvm.RoadKit.instY X hx hZ hown w eT F (g := mkF m pc ls (.ref a :: rest)) rfl rfl (hb hby hd)) G
theorem Go.instN (D : Amb κ l Z y code maxL ret rm h0 n0 Q) {idx : Nat} {K C : String} {a : Addr} (w : (Jvm.Cond.classLink y.cls idx K).before a0 Z = true) (hd : decode code pc = .ok (.instanceof idx, 3)) (hp : pc + 3 = pc') (F : ∃ c t, Z.vm.findClass C = some c ∧ Z.vm.findClass K = some t ∧ Z.vm.assignable c t = false) (E : Exa Z h a C) (G : Go κ σ h ce sl pc' ls (.int 0 :: rest)) : Go κ σ h ce sl pc ls (.ref a :: rest) := by
  subst hp
  exact Go.calm D (fun p e s m args below meth c T locs hx hZ hown hby hml hh X eT => instNo X hx hZ hown w eT E F (g := mkF m pc ls (.ref a :: rest)) rfl rfl (hb hby hd)) G
theorem Go.instNull (D : Amb κ l Z y code maxL ret rm h0 n0 Q) {idx : Nat} (hd : decode code pc = .ok (.instanceof idx, 3)) (hp : pc + 3 = pc') (G : Go κ σ h ce sl pc' ls (.int 0 :: rest)) : Go κ σ h ce sl pc ls (.null :: rest) := by
  subst hp
  exact Go.calm D (fun p e s m args below meth c T locs hx hZ hown hby hml hh X eT => ⟨T, X, eT, X.instanceofNull hx (g := mkF m pc ls (.null :: rest)) rfl rfl (hb hby hd)⟩) G
theorem Go.acmpNe (D : Amb κ l Z y code maxL ret rm h0 n0 Q) {o : Int} {x z : Value} (h1 : x.isRef = true) (h2 : z.isRef = true) (hd : decode code pc = .ok (.if_acmp .ne o, 3)) (ho : 0 ≤ (pc : Int) + o) (hp : ((pc : Int) + o).toNat = pc') (hp2 : pc + 3 = pc2)
    (Gt : ¬ x = z → Go κ σ h ce sl pc' ls rest) (Gf : x = z → Go κ σ h ce sl pc2 ls rest) : Go κ σ h ce sl pc ls (z :: x :: rest) := by
  subst hp hp2
  by_cases q : x = z
  · exact Go.calm D (fun p e s m args below meth c T locs hx hZ hown hby hml hh X eT => ⟨T, X, eT, fun t k => acmp (g := mkF m pc ls (z :: x :: rest)) X hx rfl h1 h2 (same := true) rfl (hb hby hd) rfl (by simp [q]) ho (by simp [acV]) k⟩) (Gf q)
  · exact Go.calm D (fun p e s m args below meth c T locs hx hZ hown hby hml hh X eT => ⟨T, X, eT, fun t k => acmp (g := mkF m pc ls (z :: x :: rest)) X hx rfl h1 h2 (same := false) rfl (hb hby hd) rfl (by simp [q]) ho (by simp [acV]) k⟩) (Gt q)
theorem Go.acmpEq (D : Amb κ l Z y code maxL ret rm h0 n0 Q) {o : Int} {x z : Value} (h1 : x.isRef = true) (h2 : z.isRef = true) (hd : decode code pc = .ok (.if_acmp .eq o, 3)) (ho : 0 ≤ (pc : Int) + o) (hp : ((pc : Int) + o).toNat = pc') (hp2 : pc + 3 = pc2)
    (Gt : x = z → Go κ σ h ce sl pc' ls rest) (Gf : ¬ x = z → Go κ σ h ce sl pc2 ls rest) : Go κ σ h ce sl pc ls (z :: x :: rest) := by
  subst hp hp2
  by_cases q : x = z
  · exact Go.calm D (fun p e s m args below meth c T locs hx hZ hown hby hml hh X eT => ⟨T, X, eT, fun t k => acmp (g := mkF m pc ls (z :: x :: rest)) X hx rfl h1 h2 (same := true) rfl (hb hby hd) rfl (by simp [q]) ho (by simp [acV]) k⟩) (Gt q)
  · exact Go.calm D (fun p e s m args below meth c T locs hx hZ hown hby hml hh X eT => ⟨T, X, eT, fun t k => acmp (g := mkF m pc ls (z :: x :: rest)) X hx rfl h1 h2 (same := false) rfl (hb hby hd) rfl (by simp [q]) ho (by simp [acV]) k⟩) (Gf q)
/-! System.arraycopy -/
theorem Go.acopy (D : Amb κ l Z y code maxL ret rm h0 n0 Q) {idx sN dN nN : Nat} {a b : Addr} {k k' : ClassId} {ty : FieldType} {z z' sp dp nn : Int32} {vs vd : List Value} {dv dd : Value} (w1 : (Jvm.Cond.methodLink y.cls idx Jvm.Stand.acN).before a0 Z = true) (w2 : (Jvm.Cond.native Jvm.Stand.acN).before a0 Z = true) (w3 : (Jvm.Cond.static Jvm.Stand.acN).before a0 Z = true) (w4 : (Jvm.Cond.initialized "java/lang/System").before a0 Z = true)
    (hd : decode code pc = .ok (.invokestatic idx, 3)) (hp : pc + 3 = pc') (A : Arv Z h a k ty z vs dv) (B : Arv Z h b k' ty z' vd dd) (hty : refKind ty = false) (h1 : ¬ sp < 0) (h2 : ¬ dp < 0) (h3 : ¬ nn < 0) (e1 : sp.toNatClampNeg = sN) (e2 : dp.toNatClampNeg = dN) (e3 : nn.toNatClampNeg = nN) (h4 : sN + nN ≤ z.toNatClampNeg) (h5 : dN + nN ≤ z'.toNatClampNeg)
    (hl : dN + nN ≤ vd.length) (ge : n0 ≤ b) (hls : ls.size = maxL) (hf : 1 ≤ rm.frames) {W : Nat} (hW : (rest.map fun v => v.category).sum = W) (hlo : W + (nativeFrameWords "java/lang/System" "arraycopy" 5 + 11) ≤ rm.locals)
    (G : ∀ h', Keep h h' [b] → Arv Z h' b k' ty z' (vd.take dN ++ ((List.range nN).map fun i => vs.getD (sN + i) dv) ++ vd.drop (dN + nN)) dd → Go κ σ h' ce sl pc' ls rest) : Go κ σ h ce sl pc ls (.int nn :: .int dp :: .ref b :: .int sp :: .ref a :: rest) := by
  subst hp e1 e2 e3
  refine Go.turn D (P := fun h' => Keep h h' [b] ∧ Arv Z h' b k' ty z' (vd.take dp.toNatClampNeg ++ ((List.range nn.toNatClampNeg).map fun i => vs.getD (sp.toNatClampNeg + i) dv) ++ vd.drop (dp.toNatClampNeg + nn.toNatClampNeg)) dd) (fun p e s m args below meth c T locs hx hZ hown hby hml hnm X eT N => ?_) (fun h' q => G h' q.1 q.2)
  obtain ⟨T', h1, L, X', e', N', K, A', q⟩ := cpA X hx hZ hown w1 w2 w3 w4 eT A B (Or.inl ⟨rfl, hty⟩) h1 h2 h3 h4 h5 rfl hl N ge (g := mkF m pc ls (.int nn :: .int dp :: .ref b :: .int sp :: .ref a :: rest)) rfl (hls.trans hml.symm) rfl (hb hby hd) hf (W := W) (by show 2 * 0 + _ ≤ _; rw [hW]; omega) hlo
  exact ⟨T', L, h1, X', e', N', Gw.one K ge, ⟨K, A'⟩, q⟩
theorem nin1 {x y : Addr} (q : x ≠ y) : x ∉ [y] := fun z => q (List.mem_singleton.mp z)
/-! calls -/
section Calls
variable {z : MethodName} {bytes : ByteArray} {maxLz : Nat} {retz : Option FieldType} {rmz : Room} {argsL : List Value} {Qz : Option Value → Heap → Sg → Prop} {idx : Nat} {ps : List FieldType} {rt : Option FieldType}
theorem backOfW {p : Program} {e : Env} {R : Room} {s : State} {args : Array Value} {below : List Frame} {len W : Nat} (hM : Con l Z z bytes maxLz retz rmz [] as σ h n0 Qz)
    (hZ : Z.Warmed39 s.vm) (wc : (Jvm.Cond.code z bytes maxLz retz).before a0 Z = true) (wz : (Jvm.Cond.initialized z.cls).before a0 Z = true) (hf : rmz.frames + 1 ≤ R.frames) (hl : W + (maxLz + 11) + rmz.locals ≤ R.locals) :
    BackS l R p e below s args z len W (fun A a => a = as ∧ A.U.heap = h ∧ A.cells + rmz.cells ≤ R.cells ∧ A.slots + rmz.slots ≤ R.slots ∧ VOk Z A.U.vm σ ∧ Old Z n0 A.U.heap)
      (fun A _ v B => ∃ L σ', (Fr n0 L ∧ VOk Z B.U.vm σ' ∧ Old Z n0 B.U.heap ∧ Qz v B.U.heap σ') ∧ B.locs = A.locs ++ L ∧ B.cells = A.cells + rmz.cells ∧ B.slots = A.slots + rmz.slots) :=
  BackS.of_freeW (bytes := bytes) (maxL := maxLz) (ret := retz) (E := fun _ _ o t L k n => k = rmz.cells ∧ n = rmz.slots ∧ ∃ v σ', o = .returned v ∧ (Fr n0 L ∧ VOk Z t.vm σ' ∧ Old Z n0 t.heap ∧ Qz v t.heap σ')) hM hf hl
    (fun m meth c A a Y hp => have hU : Z.Warmed39 A.U.vm := wtrans hZ Y.warmed
      ⟨by show (Jvm.Cond.and _ .tt).before a A.U = true; rw [Cond.before_and, mv hU wc]; rfl, mv hU wc, mv hU wz, hp.2.2.1, hp.2.2.2.1⟩)
    (fun m meth c A a g mk Y hp => ⟨hp.1, wtrans hZ Y.warmed, hp.2.1, hp.2.2.2.2.1, hp.2.2.2.2.2⟩) (fun _ _ _ _ _ _ _ _ _ => trivial)
    (fun _ _ _ _ ⟨v, L, σ', h1, h2, h3⟩ => ⟨L, _, _, h3, rfl, rfl, v, σ', h1, h2⟩)
    (fun m meth c A a g mk v t L k n Y hp _ _ ⟨e1, e2, v', σ', e3, e4⟩ => by cases e3; subst e1 e2; exact ⟨L, σ', e4, rfl, rfl, rfl⟩)
theorem Go.callS (D : Amb κ l Z y code maxL ret rm h0 n0 Q) (M : Con l Z z bytes maxLz retz rmz [] argsL.toArray σ h n0 Qz) (w1 : (Jvm.Cond.methodLink y.cls idx z).before a0 Z = true) (w2 : (Jvm.Cond.static z).before a0 Z = true) (w3 : (Jvm.Cond.initialized z.cls).before a0 Z = true) (w4 : (Jvm.Cond.code z bytes maxLz retz).before a0 Z = true)
    (hz : z.cls ≠ "java/lang/invoke/MethodHandle" ∧ z.cls ≠ "java/lang/invoke/VarHandle") (hd : decode code pc = .ok (.invokestatic idx, 3)) (hp : pc + 3 = pc') (hpd : parseMethodDescriptor z.desc = some ⟨ps, rt⟩) (hlen : argsL.length = ps.length) (hst : st = argsL.reverse ++ rest) (hls : ls.size = maxL)
    (hf : rmz.frames + 1 ≤ rm.frames) {W : Nat} (hW : (rest.map fun v => v.category).sum = W) (hlo : W + (maxLz + 11) + rmz.locals ≤ rm.locals) (hce : ce + rmz.cells ≤ ce') (hsl : sl + rmz.slots ≤ sl') (hc : ce' ≤ rm.cells) (hs : sl' ≤ rm.slots)
    (G : ∀ v h' σ', Qz v h' σ' → Go κ σ' h' ce' sl' pc' ls (v.toList ++ rest)) : Go κ σ h ce sl pc ls st := by
  subst hp
  obtain ⟨p, l', e, R, s, m, args, below, meth, c, Z', n0', Q'⟩ := κ
  obtain ⟨rfl, rfl, rfl, rfl, hQ, hx, hZ, hown, hby, hml, hret, hlk, hnm, hh⟩ := D
  intro vm0 k0 T locs X hS hk V O eT N
  have hZ0 : Z'.Warmed39 (s.setVm vm0).vm := State.Warmed39.trans (t := s) hZ hS.1
  have hown0 : (s.setVm vm0).vm.findClass y.cls = some m.cls := by show vm0.findClass _ = _; rw [hS.1.alike.findClass]; exact hown
  obtain ⟨v, vm₁, ⟨T1, L1, k1, n1⟩, -, X1, hS1, hsz, ⟨Lc, σ', hQ1, l1, y1, z1⟩, st1⟩ := callSS X hx (y := z) hown0 (mvT hZ0 w1) (mvT hZ0 w2) (mvT hZ0 w3) (mvT hZ0 w4) hz (backOfW (W := W) M hZ0 w4 w3 hf hlo) (g := mkF m pc ls st) rfl (hls.trans hml.symm) (argsL := argsL) (rest := rest) (lenOf hpd hlen) hst (by show 2 * 0 + _ ≤ _; rw [hW]; omega) (hb hby hd) (fun vm₁ hw1 => ⟨rfl, eT, Nat.le_trans hce hc, Nat.le_trans hsl hs, V.warm hw1, by show Old _ _ T.heap; rw [eT]; exact O⟩)
  dsimp only [Pt.U, Pt.locs, Pt.cells, Pt.slots] at X1 l1 y1 z1 st1 hQ1 hS1 hsz
  subst l1 y1 z1
  obtain ⟨s₂, o, g1, g2⟩ := G v T1.heap σ' hQ1.2.2.2 T1.vm T1.heap.size T1 _ (sd_mono X1 hce hsl) (hS.trans hS1 (by rw [eT] at hsz; exact Nat.le_trans hk hsz)) (Nat.le_refl _) hQ1.2.1 hQ1.2.2.1 rfl (Fr.app N hQ1.1)
  exact ⟨s₂, o, st1.trans g1, g2⟩
theorem Go.callI (D : Amb κ l Z y code maxL ret rm h0 n0 Q) {a : Addr} (M : Con l Z z bytes maxLz none rmz [] (.ref a :: argsL).toArray σ h n0 Qz) (hz1 : z.name = "<init>") (w1 : (Jvm.Cond.methodLink y.cls idx z).before a0 Z = true) (w2 : (Jvm.Cond.instanceMethod z).before a0 Z = true) (w3 : (Jvm.Cond.initialized z.cls).before a0 Z = true) (w4 : (Jvm.Cond.code z bytes maxLz none).before a0 Z = true)
    (hz : z.cls ≠ "java/lang/invoke/MethodHandle" ∧ z.cls ≠ "java/lang/invoke/VarHandle") (hd : decode code pc = .ok (.invokespecial idx, 3)) (hp : pc + 3 = pc') (hpd : parseMethodDescriptor z.desc = some ⟨ps, rt⟩) (hlen : argsL.length = ps.length) (hst : st = argsL.reverse ++ .ref a :: rest) (hls : ls.size = maxL)
    (hf : rmz.frames + 1 ≤ rm.frames) {W : Nat} (hW : (rest.map fun v => v.category).sum = W) (hlo : W + (maxLz + 11) + rmz.locals ≤ rm.locals) (hce : ce + rmz.cells ≤ ce') (hsl : sl + rmz.slots ≤ sl') (hc : ce' ≤ rm.cells) (hs : sl' ≤ rm.slots)
    (G : ∀ v h' σ', Qz v h' σ' → Go κ σ' h' ce' sl' pc' ls (v.toList ++ rest)) : Go κ σ h ce sl pc ls st := by
  subst hp
  obtain ⟨p, l', e, R, s, m, args, below, meth, c, Z', n0', Q'⟩ := κ
  obtain ⟨rfl, rfl, rfl, rfl, hQ, hx, hZ, hown, hby, hml, hret, hlk, hnm, hh⟩ := D
  intro vm0 k0 T locs X hS hk V O eT N
  have hZ0 : Z'.Warmed39 (s.setVm vm0).vm := State.Warmed39.trans (t := s) hZ hS.1
  have hown0 : (s.setVm vm0).vm.findClass y.cls = some m.cls := by show vm0.findClass _ = _; rw [hS.1.alike.findClass]; exact hown
  obtain ⟨v, vm₁, ⟨T1, L1, k1, n1⟩, -, X1, hS1, hsz, ⟨Lc, σ', hQ1, l1, y1, z1⟩, st1⟩ := X.specialBackS hx (y := z) hz1 hown0 (mvT hZ0 w1) (mvT hZ0 w2) (mvT hZ0 w4) hz (backOfW (W := W) M hZ0 w4 w3 hf hlo) (g := mkF m pc ls st) rfl (hls.trans hml.symm) (Steps.refl _) (a := a) (argsL := argsL) (rest := rest) (lenOf hpd hlen) hst (by show 2 * 0 + _ ≤ _; rw [hW]; omega) (hb hby hd) (fun vm₁ hw1 => ⟨rfl, eT, Nat.le_trans hce hc, Nat.le_trans hsl hs, V.warm hw1, by show Old _ _ T.heap; rw [eT]; exact O⟩)
  dsimp only [Pt.U, Pt.locs, Pt.cells, Pt.slots] at X1 l1 y1 z1 st1 hQ1 hS1 hsz
  subst l1 y1 z1
  obtain ⟨s₂, o, g1, g2⟩ := G v T1.heap σ' hQ1.2.2.2 T1.vm T1.heap.size T1 _ (sd_mono X1 hce hsl) (hS.trans hS1 (by rw [eT] at hsz; exact Nat.le_trans hk hsz)) (Nat.le_refl _) hQ1.2.1 hQ1.2.2.1 rfl (Fr.app N hQ1.1)
  exact ⟨s₂, o, st1.trans g1, g2⟩
theorem Go.callV (D : Amb κ l Z y code maxL ret rm h0 n0 Q) {a : Addr} {C : String} {zr : MethodName} (M : Con l Z z bytes maxLz retz rmz [] (.ref a :: argsL).toArray σ h n0 Qz) (w1 : (Jvm.Cond.methodLink y.cls idx zr).before a0 Z = true) (w2 : (Jvm.Cond.declares zr).before a0 Z = true) (ws : (Jvm.Cond.selects C zr z).before a0 Z = true) (wi : (Jvm.Cond.instanceMethod z).before a0 Z = true) (w3 : (Jvm.Cond.initialized z.cls).before a0 Z = true) (w4 : (Jvm.Cond.code z bytes maxLz retz).before a0 Z = true)
    (nf : ∀ s : State, Z.Warmed39 s.vm → NotFace s zr) (hz : zr.cls ≠ "java/lang/invoke/MethodHandle" ∧ zr.cls ≠ "java/lang/invoke/VarHandle") (E : Exa Z h a C) (hd : decode code pc = .ok (.invokevirtual idx, 3)) (hp : pc + 3 = pc') (hpd : parseMethodDescriptor zr.desc = some ⟨ps, rt⟩) (hlen : argsL.length = ps.length) (hst : st = argsL.reverse ++ .ref a :: rest) (hls : ls.size = maxL)
    (hf : rmz.frames + 1 ≤ rm.frames) {W : Nat} (hW : (rest.map fun v => v.category).sum = W) (hlo : W + (maxLz + 11) + rmz.locals ≤ rm.locals) (hce : ce + rmz.cells ≤ ce') (hsl : sl + rmz.slots ≤ sl') (hc : ce' ≤ rm.cells) (hs : sl' ≤ rm.slots)
    (G : ∀ v h' σ', Qz v h' σ' → Go κ σ' h' ce' sl' pc' ls (v.toList ++ rest)) : Go κ σ h ce sl pc ls st := by
  subst hp
  obtain ⟨p, l', e, R, s, m, args, below, meth, c, Z', n0', Q'⟩ := κ
  obtain ⟨rfl, rfl, rfl, rfl, hQ, hx, hZ, hown, hby, hml, hret, hlk, hnm, hh⟩ := D
  intro vm0 k0 T locs X hS hk V O eT N
  have hZ0 : Z'.Warmed39 (s.setVm vm0).vm := State.Warmed39.trans (t := s) hZ hS.1
  have hown0 : (s.setVm vm0).vm.findClass y.cls = some m.cls := by show vm0.findClass _ = _; rw [hS.1.alike.findClass]; exact hown
  obtain ⟨cq, kq, q1, q2, q3⟩ := isOf hZ0 eT E
  obtain ⟨v, vm₁, ⟨T1, L1, k1, n1⟩, -, X1, hS1, hsz, ⟨Lc, σ', hQ1, l1, y1, z1⟩, st1⟩ := X.virtualBackS hx (y := zr) (z := z) hown0 (mvT hZ0 w1) (mvT hZ0 w2) (nf _ hZ0) (mvT hZ0 ws) (mvT hZ0 wi) hz (backOfW (W := W) M hZ0 w4 w3 hf hlo) q1 q3 (g := mkF m pc ls st) rfl (hls.trans hml.symm) (Steps.refl _) (argsL := argsL) (rest := rest) (lenOf hpd hlen) hst (by show 2 * 0 + _ ≤ _; rw [hW]; omega) (hb hby hd) (fun vm₁ hw1 => ⟨rfl, eT, Nat.le_trans hce hc, Nat.le_trans hsl hs, V.warm hw1, by show Old _ _ T.heap; rw [eT]; exact O⟩)
  dsimp only [Pt.U, Pt.locs, Pt.cells, Pt.slots] at X1 l1 y1 z1 st1 hQ1 hS1 hsz
  subst l1 y1 z1
  obtain ⟨s₂, o, g1, g2⟩ := G v T1.heap σ' hQ1.2.2.2 T1.vm T1.heap.size T1 _ (sd_mono X1 hce hsl) (hS.trans hS1 (by rw [eT] at hsz; exact Nat.le_trans hk hsz)) (Nat.le_refl _) hQ1.2.1 hQ1.2.2.1 rfl (Fr.app N hQ1.1)
  exact ⟨s₂, o, st1.trans g1, g2⟩
theorem nfS {C : String} {y : MethodName} (h : (Jvm.Cond.selects C y y).before a0 Z = true) : ∀ s : State, Z.Warmed39 s.vm → NotFace s y := fun s hZ => notFace_of_selects (args := #[]) (mvT hZ h)
theorem nfS2 {C : String} {y y' : MethodName} (h : (Jvm.Cond.selects C y' y').before a0 Z = true) (e : y'.cls = y.cls) : ∀ s : State, Z.Warmed39 s.vm → NotFace s y := fun s hZ r0 h0 => by
  obtain ⟨c2, r2, m2, q1, q2, q3, q4, kP, hkP, hkPi⟩ := Cond.selects_spec (mvT (args := #[]) hZ h)
  have a := findClass_of_methodNamed h0
  have b := findClass_of_methodNamed q3
  rw [e] at b
  have e2 : r0.cls = m2.cls := Option.some.inj (a.symm.trans b)
  exact ⟨kP, by rw [e2]; exact hkP, hkPi⟩
theorem declOf (wi : (Jvm.Cond.instanceMethod z).before a0 Z = true) (wc : (Jvm.Cond.code z bytes maxLz retz).before a0 Z = true) : (Jvm.Cond.declares z).before a0 Z = true := by
  obtain ⟨mk, methM, hnamed, hmethM, hstM, habM⟩ := Cond.instanceMethod_spec wi
  obtain ⟨m2, cM, q1, -, -, -, -, -, -, hsig⟩ := Cond.code_spec hnamed wc
  cases hmethM.symm.trans q1
  simp [Cond.before, Cond.holds, Cond.value, hnamed, hmethM, hstM, hsig]
theorem sameOf {C : String} {y' : MethodName} (hz : z.cls ≠ "java/lang/invoke/MethodHandle" ∧ z.cls ≠ "java/lang/invoke/VarHandle") (wi : (Jvm.Cond.instanceMethod z).before a0 Z = true) (hsel : (Jvm.Cond.selects C y' y').before a0 Z = true) (e : y'.cls = z.cls) : (Jvm.Cond.sameMethod z.cls z.cls z.name z.desc).before a0 Z = true := by
  obtain ⟨mk, methM, hnamed, hmethM, hstM, habM⟩ := Cond.instanceMethod_spec wi
  obtain ⟨kr, hk, hi⟩ := nfS2 hsel e Z (State.Warmed39.refl Z) mk hnamed
  have hf := State.methodFound?_of_named hnamed hz
  have hc := findClass_of_methodNamed hnamed
  have hn : Z.methodNamed? ⟨z.cls, z.name, z.desc⟩ = some mk := hnamed
  simp [Cond.before, Cond.holds, Cond.value, hc, hf, hn, hk, hi]
theorem Go.callP (D : Amb κ l Z y code maxL ret rm h0 n0 Q) {a : Addr} {K : String} (M : Con l Z z bytes maxLz retz rmz [] (.ref a :: argsL).toArray σ h n0 Qz) (hz1 : z.name ≠ "<init>") (w1 : (Jvm.Cond.methodLink y.cls idx z).before a0 Z = true) (wsm : (Jvm.Cond.sameMethod z.cls z.cls z.name z.desc).before a0 Z = true) (w2 : (Jvm.Cond.instanceMethod z).before a0 Z = true) (wsp : (Jvm.Cond.superclass y.cls z.cls).before a0 Z = true) (w3 : (Jvm.Cond.initialized z.cls).before a0 Z = true) (w4 : (Jvm.Cond.code z bytes maxLz retz).before a0 Z = true)
    (F : Ins Z h a K true) (hd : decode code pc = .ok (.invokespecial idx, 3)) (hp : pc + 3 = pc') (hpd : parseMethodDescriptor z.desc = some ⟨ps, rt⟩) (hlen : argsL.length = ps.length) (hst : st = argsL.reverse ++ .ref a :: rest) (hls : ls.size = maxL)
    (hf : rmz.frames + 1 ≤ rm.frames) {W : Nat} (hW : (rest.map fun v => v.category).sum = W) (hlo : W + (maxLz + 11) + rmz.locals ≤ rm.locals) (hce : ce + rmz.cells ≤ ce') (hsl : sl + rmz.slots ≤ sl') (hc : ce' ≤ rm.cells) (hs : sl' ≤ rm.slots)
    (G : ∀ v h' σ', Qz v h' σ' → Go κ σ' h' ce' sl' pc' ls (v.toList ++ rest)) : Go κ σ h ce sl pc ls st := by
  subst hp
  obtain ⟨p, l', e, R, s, m, args, below, meth, c, Z', n0', Q'⟩ := κ
  obtain ⟨rfl, rfl, rfl, rfl, hQ, hx, hZ, hown, hby, hml, hret, hlk, hnm, hh⟩ := D
  intro vm0 k0 T locs X hS hk V O eT N
  have hZ0 : Z'.Warmed39 (s.setVm vm0).vm := State.Warmed39.trans (t := s) hZ hS.1
  have hown0 : (s.setVm vm0).vm.findClass y.cls = some m.cls := by show vm0.findClass _ = _; rw [hS.1.alike.findClass]; exact hown
  obtain ⟨v, vm₁, ⟨T1, L1, k1, n1⟩, -, X1, hS1, hsz, ⟨Lc, σ', hQ1, l1, y1, z1⟩, st1⟩ := Jvm.RoadKit.superBackS X hx hZ0 (y := z) hown0 w1 wsm w2 wsp hz1 (backOfW (W := W) M hZ0 w4 w3 hf hlo) eT F (g := mkF m pc ls st) rfl (hls.trans hml.symm) w4 (argsL := argsL) (rest := rest) (lenOf hpd hlen) hst (by show 2 * 0 + _ ≤ _; rw [hW]; omega) (hb hby hd) (fun vm₁ hw1 => ⟨rfl, eT, Nat.le_trans hce hc, Nat.le_trans hsl hs, V.warm hw1, by show Old _ _ T.heap; rw [eT]; exact O⟩)
  dsimp only [Pt.U, Pt.locs, Pt.cells, Pt.slots] at X1 l1 y1 z1 st1 hQ1 hS1 hsz
  subst l1 y1 z1
  obtain ⟨s₂, o, g1, g2⟩ := G v T1.heap σ' hQ1.2.2.2 T1.vm T1.heap.size T1 _ (sd_mono X1 hce hsl) (hS.trans hS1 (by rw [eT] at hsz; exact Nat.le_trans hk hsz)) (Nat.le_refl _) hQ1.2.1 hQ1.2.2.1 rfl (Fr.app N hQ1.1)
  exact ⟨s₂, o, st1.trans g1, g2⟩
end Calls
/-! String constants -/
/-- a constant whose text nobody reads -/
theorem Go.ldcR (D : Amb κ l Z y code maxL ret rm h0 n0 Q) {idx n : Nat} {text : String} (w : (Jvm.Cond.stringLink y.cls idx text).before a0 Z = true) (wS : ∀ a ∈ Bundle.stringAtoms, a.before a0 Z = true) (hd : decode code pc = .ok (.ldc idx, 2)) (hp : pc + 2 = pc') (hn : 4 * text.toList.length ≤ n) (hbig : n ≤ 536870912) (hce : ce + 2 = ce') (hsl : sl + (n + 4) = sl') (hc : ce' ≤ rm.cells) (hs : sl' ≤ rm.slots)
    (G : ∀ h' a, Ext h h' → Go κ none h' ce' sl' pc' ls (.ref a :: st)) : Go κ none h ce sl pc ls st := by
  subst hp hce hsl
  obtain ⟨p, l', e, R, s, m, args, below, meth, c, Z', n0', Q'⟩ := κ
  obtain ⟨rfl, rfl, rfl, rfl, hQ, hx, hZ, hown, hby, hml, hret, hlk, hnm, hh⟩ := D
  intro vm0 k0 T locs X hS hk V O eT N
  have hZ0 : Z'.Warmed39 vm0 := State.Warmed39.trans (t := s) hZ hS.1
  have hown0 : vm0.findClass y.cls = some m.cls := by rw [hS.1.alike.findClass]; exact hown
  obtain ⟨a, T', h', k1, X', eT', E, hS', hk', -, -, k⟩ := ldcS X hx hZ0 hown0 w wS eT hS hk (g := mkF m pc ls st) rfl (hb hby hd) hn hbig hc hs
  obtain ⟨s₂, o, g1, g2⟩ := G h' a E T'.vm k1 T' locs X' hS' hk' trivial (O.ext E) eT' N
  exact ⟨s₂, o, k _ g1, g2⟩
/-- the same place of a walk, over a start that has the heap and the tables at hand -/
theorem reb {p : Program} {e : Env} {R : Room} {s : State} {m : MethodId} {args : Array Value} {below : List Frame} {meth : Method} {c : Code} {T : State} {locs : List Loc} (X : Stand p l e R s m args below meth c T locs ce sl) (hc : ce ≤ R.cells) (hs : sl ≤ R.slots) :
    Stand p l e { R with cells := R.cells - ce, slots := R.slots - sl } ({ (s.setVm T.vm) with heap := T.heap, slotsUsed := T.slotsUsed } : State) m args below meth c T [] 0 0 := by
  have Y := X.retabled X.warmed.wide
  refine { admits := X.admits, cas := X.cas, clock := X.clock, frames := X.frames, room := ?_, hears := Y.hears, method := Y.method, code := X.code, here := X.here, tail := X.tail, warmed := State.WarmedH.refl _, limits := X.limits, bytes := X.bytes, same := ?_ }
  · have r := Y.room
    have b := X.book
    have h1 := X.heapSize
    have h2 := X.used
    simp only [State.hasRoom, Bool.and_eq_true, decide_eq_true_eq] at r ⊢
    obtain ⟨⟨⟨⟨r1, r2⟩, r3⟩, r4⟩, r5⟩ := r
    refine ⟨⟨⟨⟨r1, r2⟩, ?_⟩, ?_⟩, b⟩
    · have r3' : s.heap.size + R.cells ≤ e.platform.maxCells := r3
      show T.heap.size + (R.cells - ce) ≤ e.platform.maxCells
      omega
    · have r4' : s.slotsUsed + R.slots ≤ e.platform.maxSlots := r4
      show T.slotsUsed + (R.slots - sl) ≤ e.platform.maxSlots
      omega
  · refine ⟨?_, Nat.le_refl _, by show T.heap.size ≤ T.heap.size + 0; omega, ?_, ?_, fun a c hc => ⟨c, hc, rfl, rfl, fun _ _ => rfl⟩⟩
    · have q := congrArg (fun u : State => u.setVm T.vm) X.same.1
      exact q
    · show T.slotsUsed = T.slotsUsed + ((T.heap.toList.drop T.heap.size).map (·.slots.size)).sum
      rw [List.drop_eq_nil_of_le (by simp)]; simp
    · show ((T.heap.toList.drop T.heap.size).map (·.slots.size)).sum ≤ 0
      rw [List.drop_eq_nil_of_le (by simp)]; simp
/-- a String that spells these bytes -/
def SC (Z : State) (h : Heap) (a : Addr) (z : Int32) (vs : List Value) : Prop := Exa Z h a "java/lang/String" ∧ Fld Z h a "java/lang/String" "coder" "B" (.int 0) ∧ ∃ (b : Addr) (k : ClassId), Fld Z h a "java/lang/String" "value" "[B" (.ref b) ∧ Arv Z h b k .byte z vs (.int 0)
theorem SC.ext {a : Addr} {z : Int32} {vs : List Value} (F : SC Z h a z vs) (E : Ext h h') : SC Z h' a z vs := by
  obtain ⟨f1, f2, b, k, f3, f4⟩ := F
  exact ⟨f1.ext E, f2.ext E, b, k, f3.ext E, f4.ext E⟩
theorem SC.wr {a s : Addr} {C : String} {n sl : Nat} {v : Value} {z : Int32} {vs : List Value} (S : SC Z h a z vs) (W : Wr h h' s sl v) (q : a ≠ s) (E : Exa Z h s C) (wi : (Jvm.Cond.instantiable C n).before a0 Z = true) : SC Z h' a z vs := by
  obtain ⟨f1, f2, b, k, f3, f4⟩ := S
  exact ⟨f1.wr W, f2.other W (Or.inl q), b, k, f3.other W (Or.inl q), f4.other W (Ne.symm (Exa.neArv E f4 wi))⟩
/-- a constant that this walk has loaded -/
theorem Go.ldcA (D : Amb κ l Z y code maxL ret rm h0 n0 Q) {idx : Nat} {text : String} {L : List (String × Nat × String × Addr)} {a : Addr} (w : (Jvm.Cond.stringLink y.cls idx text).before a0 Z = true) (ha : (y.cls, idx, text, a) ∈ L) (hd : decode code pc = .ok (.ldc idx, 2)) (hp : pc + 2 = pc') (G : Go κ (some L) h ce sl pc' ls (.ref a :: st)) : Go κ (some L) h ce sl pc ls st := by
  subst hp
  obtain ⟨p, l', e, R, s, m, args, below, meth, c, Z', n0', Q'⟩ := κ
  obtain ⟨rfl, rfl, rfl, rfl, hQ, hx, hZ, hown, hby, hml, hret, hlk, hnm, hh0⟩ := D
  intro vm0 k0 T locs X hS hk V O eT N
  have hZ0 : Z'.Warmed39 vm0 := State.Warmed39.trans (t := s) hZ hS.1
  have hown0 : vm0.findClass y.cls = some m.cls := by rw [hS.1.alike.findClass]; exact hown
  have Lt : Lit (s.setVm vm0) y.cls idx a := V.2 _ ha
  have k := ldcAgain X hx hZ0 hown0 w Lt (g := mkF m pc ls st) rfl (hb hby hd)
  obtain ⟨s₂, o, g1, g2⟩ := G vm0 k0 T locs X hS hk V O eT N
  exact ⟨s₂, o, k _ g1, g2⟩
/-- a constant whose text is read -/
theorem Go.ldcT (D : Amb κ l Z y code maxL ret rm h0 n0 Q) {idx n : Nat} {text : String} {L : List (String × Nat × String × Addr)} {vs : List Value} {z : Int32} (w : (Jvm.Cond.stringLink y.cls idx text).before a0 Z = true) (wS : ∀ a ∈ Bundle.stringAtoms, a.before a0 Z = true) (hh : Jvm.Lit.constHeld Z y.cls idx) (hcw : Jvm.Lit.compactW.before a0 Z = true)
    (ht : (∀ c ∈ text.toList, c.toNat < 256) ∧ text.toList.map (fun c => Value.int (Jvm.Lit.byteI c.toNat.toUInt16)) = vs) (hz : ¬ z < 0) (hl : z.toNatClampNeg = vs.length) (hL : (∃ a, (y.cls, idx, text, a) ∈ L) ∨ text ∉ L.map fun q => q.2.2.1) (I : ∀ a, (y.cls, idx, text, a) ∈ L → SC Z h a z vs)
    (hd : decode code pc = .ok (.ldc idx, 2)) (hp : pc + 2 = pc') (hn : 4 * text.toList.length ≤ n) (hbig : n ≤ 536870912) (hce : ce + 2 = ce') (hsl : sl + (n + 4) = sl') (hc : ce' ≤ rm.cells) (hs : sl' ≤ rm.slots)
    (G : ∀ h' a L', Ext h h' → (y.cls, idx, text, a) ∈ L' → (L' = L ∨ L' = (y.cls, idx, text, a) :: L) → SC Z h' a z vs → Go κ (some L') h' ce' sl' pc' ls (.ref a :: st)) : Go κ (some L) h ce sl pc ls st := by
  subst hp hce hsl
  obtain ⟨p, l', e, R, s, m, args, below, meth, c, Z', n0', Q'⟩ := κ
  obtain ⟨rfl, rfl, rfl, rfl, hQ, hx, hZ, hown, hby, hml, hret, hlk, hnm, hh0⟩ := D
  intro vm0 k0 T locs X hS hk V O eT N
  have hZ0 : Z'.Warmed39 vm0 := State.Warmed39.trans (t := s) hZ hS.1
  have hown0 : vm0.findClass y.cls = some m.cls := by rw [hS.1.alike.findClass]; exact hown
  rcases hL with ⟨a, ha⟩ | hnot
  · have Lt : Lit (s.setVm vm0) y.cls idx a := V.2 _ ha
    have k := ldcAgain X hx hZ0 hown0 w Lt (g := mkF m pc ls st) rfl (hb hby hd)
    obtain ⟨s₂, o, g1, g2⟩ := G h a L ⟨Nat.le_refl _, fun _ _ q => q⟩ ha (Or.inl rfl) (I a ha) vm0 k0 T locs (sd_mono X (by omega) (by omega)) hS hk V O eT N
    exact ⟨s₂, o, k _ g1, g2⟩
  · have hc0 : ce ≤ R.cells := by omega
    have hs0 : sl ≤ R.slots := by omega
    have Y := reb X hc0 hs0
    have hZT : Z'.Warmed39 T.vm := State.Warmed39.trans (t := s.setVm vm0) hZ0 X.warmed.wide
    have hownT : T.vm.findClass y.cls = some m.cls := by rw [X.warmed.alike.findClass]; exact hown0
    have VT : VOk Z' T.vm (some L) := V.warm X.warmed
    obtain ⟨a, T', h', k1, b, kb, X', eT', E, hS', hk', hW', -, F1, F2, F3, F4, -, -, hI, hLit, k⟩ := ldcSVL (s := ({ ((s.setVm vm0).setVm T.vm) with heap := T.heap, slotsUsed := T.slotsUsed } : State)) (vm0 := T.vm) Y hx hZT hownT w wS eT (k0 := h.size) ((State.WarmedH.refl _).since _) (Nat.le_refl _) (Fr.nil _) (fun b cl hb => by show T.heap[b]? = _; rw [eT]; exact O.2.2 b cl hb) VT.1 hnot hh hcw ht hz hl (g := mkF m pc ls st) rfl (hb hby hd) hn hbig (by show 0 + 2 ≤ R.cells - ce; omega) (by show 0 + (n + 4) ≤ R.slots - sl; omega)
    have hT39 : T.Warmed39 T'.vm := hS'.1
    have hTB : T.Booked T'.vm T'.heap.size := State.Booked.mono (s := T) hS'.2 (by rw [eT']; exact hk')
    have hsame : T.sameButNew (T'.setVm T.vm) [] 2 (n + 4) := by
      obtain ⟨q1, q2, q3, q4, q5, q6⟩ := X'.same
      refine ⟨?_, q2, by have := q3; simp only [Nat.zero_add] at this; exact this, q4, by have := q5; simp only [Nat.zero_add] at this; exact this, q6⟩
      have r1 := congrArg (fun u : State => u.setVm T.vm) q1
      have r2 : (T'.setVm T.vm) = ({ ((s.setVm vm0).setVm T.vm).setFrames T'.frames with heap := T'.heap, slotsUsed := T'.slotsUsed } : State) := r1
      have r3 := congrArg (fun u : State => ({ (u.setVm T.vm).setFrames T'.frames with heap := T'.heap, slotsUsed := T'.slotsUsed } : State)) X.same.1
      have r4 : ({ T.setFrames T'.frames with heap := T'.heap, slotsUsed := T'.slotsUsed } : State) = ({ (((s.setVm vm0).setVm T.vm).setFrames T.frames).setFrames T'.frames with heap := T'.heap, slotsUsed := T'.slotsUsed } : State) := r3
      rw [State.setFrames_setFrames] at r4
      exact r2.trans r4.symm
    obtain ⟨X2, hS2⟩ := X.movedW X'.here X'.tail (X'.limits.trans X.limits.symm) (X'.bytes.trans X.bytes.symm) hT39 hTB hsame
    have V2 : VOk Z' T'.vm (some ((y.cls, idx, text, a) :: L)) := by
      refine ⟨hI, fun q hq => ?_⟩
      rcases List.mem_cons.mp hq with rfl | hq
      · exact hLit
      · have h1 : Lit (T.setVm T.vm) q.1 q.2.1 q.2.2.2 := VT.2 q hq
        exact Lit.stays (s := T) (vm0 := T.vm) h1 hT39
    have hle : h.size ≤ T'.heap.size := by rw [eT']; exact E.1
    obtain ⟨s₂, o, g1, g2⟩ := G h' a _ E (List.mem_cons_self ..) (Or.inr rfl) ⟨F1, F2, b, kb, F3, F4⟩ T'.vm T'.heap.size T' (locs ++ []) X2 (hS.trans hS2 (Nat.le_trans hk hle)) (by rw [eT']; exact Nat.le_refl _) V2 (O.ext E) eT' (by rw [List.append_nil]; exact N)
    exact ⟨s₂, o, k _ g1, g2⟩
end Rules
end Jvm.OwnKit

namespace Jvm.Pilot.@@N@@
open Jvm Jvm.ClassFile Sem Op Lib Jvm.Free Jvm.Stand Jvm.LawKit Jvm.RoadKit Bundle Jvm.OwnKit Jvm.Pilot.@@N@@.Jvm.D

/-! numbers -/
theorem own_ti {i : Nat} (h : i < 2147483648) : (Int32.ofNat i).toInt = i := Int32.toInt_ofNat_small (by omega)
theorem own_tn {i : Nat} (h : i < 2147483648) : (Int32.ofNat i).toNatClampNeg = i := by simp only [Int32.toNatClampNeg, own_ti h]; rfl
theorem own_nn {i : Nat} (h : i < 2147483648) : ¬ Int32.ofNat i < 0 := by rw [Int32.lt_iff_toInt_lt, own_ti h]; show ¬ (i : Int) < 0; omega
theorem own_lt {i j : Nat} (hi : i < 2147483648) (hj : j < 2147483648) : Int32.ofNat i < Int32.ofNat j ↔ i < j := by rw [Int32.lt_iff_toInt_lt, own_ti hi, own_ti hj]; omega
theorem own_inj {i j : Nat} (hi : i < 2147483648) (hj : j < 2147483648) (h : Int32.ofNat i = Int32.ofNat j) : i = j := by
  have := congrArg Int32.toInt h; rw [own_ti hi, own_ti hj] at this; omega
theorem own_succ (i : Nat) : Int32.ofNat i + 1 = Int32.ofNat (i + 1) := Int32.ofNat_succ i
theorem own_ne {a b : Nat} (h : a < b ∨ b < a) : a ≠ b := fun e => by subst e; omega
theorem own_ltn {a b : Nat} (h : a < b) : a < b := h
/-! chars and bytes -/
def bv (cs : List Int32) : List Value := cs.map fun c => Value.int c.toInt8.toInt32
def Lat (cs : List Int32) : Prop := (∀ c ∈ cs, ¬ c < 0 ∧ c < 256) ∧ cs.length ≤ 64
theorem bv_len (cs : List Int32) : (bv cs).length = cs.length := by simp [bv]
theorem own_bb (x : Int32) : nar .byte (x.toInt8.toInt32) = x.toInt8.toInt32 := by
  show x.toInt8.toInt32.toInt8.toInt32 = x.toInt8.toInt32
  rw [Int8.toInt8_toInt32]
theorem byte_inj {c d : Int32} (hc : ¬ c < 0 ∧ c < 256) (hd : ¬ d < 0 ∧ d < 256) (h : c.toInt8.toInt32 = d.toInt8.toInt32) : c = d := by
  have a := c_i2b c
  have b := c_i2b d
  rw [h] at a
  simp only [Int32.lt_iff_toInt_lt, show (0 : Int32).toInt = 0 from rfl, show (256 : Int32).toInt = 256 from rfl] at hc hd
  apply Int32.toInt_inj.mp
  omega
theorem bv_inj {cs ds : List Int32} (hc : ∀ c ∈ cs, ¬ c < 0 ∧ c < 256) (hd : ∀ c ∈ ds, ¬ c < 0 ∧ c < 256) (h : bv cs = bv ds) : cs = ds := by
  induction cs generalizing ds with
  | nil =>
    cases ds with
    | nil => rfl
    | cons d ds => simp [bv] at h
  | cons c cs ih =>
    cases ds with
    | nil => simp [bv] at h
    | cons d ds =>
      simp only [bv, List.map_cons, List.cons.injEq, Value.int.injEq] at h
      rw [byte_inj (hc c (by simp)) (hd d (by simp)) h.1, ih (fun x hx => hc x (by simp [hx])) (fun x hx => hd x (by simp [hx])) h.2]
theorem cs_at {cs : List Int32} {i : Nat} (h : i < cs.length) (d : Value) : (cs.map Value.int).getD i d = .int cs[i] := by simp [h]
theorem bv_at {cs : List Int32} {i : Nat} (h : i < cs.length) (d : Value) : (bv cs).getD i d = .int (cs[i].toInt8.toInt32) := by simp [bv, h]
theorem own_bset {cs : List Int32} {i : Nat} (h : i < cs.length) : ((bv cs).take i ++ List.replicate (cs.length - i) (Value.int 0)).set i (.int (cs[i].toInt8.toInt32)) = (bv cs).take (i + 1) ++ List.replicate (cs.length - (i + 1)) (Value.int 0) := by
  have hl : ((bv cs).take i).length = i := by rw [List.length_take, bv_len]; omega
  rw [show cs.length - i = (cs.length - (i + 1)) + 1 by omega, List.replicate_succ, List.set_append_right _ _ (by omega), hl, Nat.sub_self, List.set_cons_zero, List.take_add_one]
  have : (bv cs)[i]? = some (Value.int (cs[i].toInt8.toInt32)) := by simp [bv, h]
  rw [this]
  simp
theorem lat_le {c : Int32} (h : ¬ c < 0 ∧ c < 256) : ¬ (255 : Int32) < c := by
  simp only [Int32.lt_iff_toInt_lt, show (0 : Int32).toInt = 0 from rfl, show (256 : Int32).toInt = 256 from rfl, show (255 : Int32).toInt = 255 from rfl] at h ⊢
  omega
/-- the String a spells cs -/
def Str (Z : State) (h : Heap) (a : Addr) (cs : List Int32) : Prop := SC Z h a (Int32.ofNat cs.length) (bv cs) ∧ Lat cs
theorem Str.ext {Z : State} {h h' : Heap} {a : Addr} {cs : List Int32} (S : Str Z h a cs) (E : Ext h h') : Str Z h' a cs := ⟨S.1.ext E, S.2⟩
theorem Arv.uniq {Z : State} {h : Heap} {a : Addr} {k k' : ClassId} {ty : FieldType} {n n' : Int32} {vs ws : List Value} {d : Value} (A : Arv Z h a k ty n vs d) (B : Arv Z h a k' ty n' ws d) (hv : vs.length = n.toNatClampNeg) (hw : ws.length = n'.toNatClampNeg) : vs = ws := by
  obtain ⟨c, A1, -, A3, -, A5, -⟩ := A
  obtain ⟨c', B1, -, B3, -, B5, -⟩ := B
  cases A1.1.symm.trans B1.1
  apply List.ext_getElem (by omega)
  intro i h1 h2
  have q := (A5 i (by omega)).symm.trans (B5 i (by omega))
  simpa [h1, h2] using q
theorem Str.uniq {Z : State} {h : Heap} {a : Addr} {cs ds : List Int32} (S : Str Z h a cs) (S' : Str Z h a ds) : cs = ds := by
  obtain ⟨⟨-, -, b, k, F, A⟩, l1, l2⟩ := S
  obtain ⟨⟨-, -, b', k', F', A'⟩, l1', l2'⟩ := S'
  have e : b = b' := Classical.byContradiction fun q => Fld.ne F F' (fun z => q (by injection z)) rfl
  subst e
  exact bv_inj l1 l1' (Arv.uniq A A' (by rw [bv_len, own_tn (by omega)]) (by rw [bv_len, own_tn (by omega)]))
theorem Str.keep {Z : State} {a0 : Array Value} {h h' : Heap} {a s : Addr} {C : String} {n : Nat} {cs : List Int32} (S : Str Z h a cs) (K : Keep h h' [s]) (q : a ≠ s) (E : Exa Z h s C) (wi : (Jvm.Cond.instantiable C n).before a0 Z = true) : Str Z h' a cs := by
  obtain ⟨⟨f1, f2, b, k, f3, f4⟩, l⟩ := S
  exact ⟨⟨f1.keep K, f2.keep K (nin1 q), b, k, f3.keep K (nin1 q), f4.keep K (nin1 (Ne.symm (Exa.neArv E f4 wi)))⟩, l⟩
/-! the constants that are loaded -/
def tb (t : String) : List Value := t.toList.map fun c => Value.int (Jvm.Lit.byteI c.toNat.toUInt16)
def CsOk (CS : List (String × Nat × String)) (Z : State) (h : Heap) (L : List (String × Nat × String × Addr)) : Prop := ∀ q ∈ L, (q.1, q.2.1, q.2.2.1) ∈ CS ∧ SC Z h q.2.2.2 (Int32.ofNat (tb q.2.2.1).length) (tb q.2.2.1)
theorem CsOk.nil {CS : List (String × Nat × String)} {Z : State} {h : Heap} : CsOk CS Z h [] := fun q hq => nomatch hq
theorem CsOk.ext {CS : List (String × Nat × String)} {Z : State} {h h' : Heap} {L : List (String × Nat × String × Addr)} (C : CsOk CS Z h L) (E : Ext h h') : CsOk CS Z h' L := fun q hq => ⟨(C q hq).1, (C q hq).2.ext E⟩
theorem CsOk.wr {CS : List (String × Nat × String)} {Z : State} {a0 : Array Value} {h h' : Heap} {L : List (String × Nat × String × Addr)} {s : Addr} {C : String} {n sl : Nat} {v : Value} (K : CsOk CS Z h L) (W : Wr h h' s sl v) (hq : ∀ q ∈ L, q.2.2.2 ≠ s) (E : Exa Z h s C) (wi : (Jvm.Cond.instantiable C n).before a0 Z = true) : CsOk CS Z h' L := fun q hm => ⟨(K q hm).1, (K q hm).2.wr W (hq q hm) E wi⟩
theorem CsOk.has {CS : List (String × Nat × String)} {Z : State} {h : Heap} {L : List (String × Nat × String × Addr)} (K : CsOk CS Z h L) {own text : String} {idx : Nat} (hu : ∀ c ∈ CS, c.2.2 = text → c = (own, idx, text)) : (∃ a, (own, idx, text, a) ∈ L) ∨ text ∉ L.map fun q => q.2.2.1 := by
  by_cases q : text ∈ L.map fun q => q.2.2.1
  · obtain ⟨x, hx, e⟩ := List.mem_map.mp q
    have := hu _ (K x hx).1 e
    obtain ⟨x1, x2, x3, x4⟩ := x
    simp only [Prod.mk.injEq] at this
    obtain ⟨rfl, rfl, rfl⟩ := this
    exact Or.inl ⟨x4, hx⟩
  · exact Or.inr q
theorem CsOk.step {CS : List (String × Nat × String)} {Z : State} {h h' : Heap} {L L' : List (String × Nat × String × Addr)} {own text : String} {idx : Nat} {a : Addr} (K : CsOk CS Z h L) (E : Ext h h') (hm : (own, idx, text) ∈ CS) (hL : L' = L ∨ L' = (own, idx, text, a) :: L) (S : SC Z h' a (Int32.ofNat (tb text).length) (tb text)) : CsOk CS Z h' L' := by
  rcases hL with rfl | rfl
  · exact K.ext E
  · intro q hq
    rcases List.mem_cons.mp hq with rfl | hq
    · exact ⟨hm, S⟩
    · exact (K.ext E) q hq

abbrev CS : List (String × Nat × String) := [("com/example/per_group_sequences/pergroupsequences/CounterId", 7, "sequenceName"), ("com/example/per_group_sequences/pergroupsequences/CounterId", 22, "groupKey"), ("com/example/per_group_sequences/pergroupsequences/CounterId", 37, "("), ("com/example/per_group_sequences/pergroupsequences/CounterId", 43, ", "), ("com/example/per_group_sequences/pergroupsequences/CounterId", 45, ")"), ("java/lang/String", 7, "")]
theorem wS {Z : State} {a0 : Array Value} (hw : ∀ d ∈ tables_1, d.before a0 Z = true) : ∀ a ∈ Bundle.stringAtoms, a.before a0 Z = true := fun a ha => hw a ((by decide +kernel : ∀ a ∈ Bundle.stringAtoms, a ∈ tables_1) a ha)
abbrev y6 : MethodName := ⟨"java/lang/StringUTF16", "compress", "([CI[BII)I"⟩
theorem d6_0 : decode jdk_52_method_21_code 0 = .ok (.iconst 0, 1) := by decide +kernel
theorem d6_1 : decode jdk_52_method_21_code 1 = .ok (.istore 5, 2) := by decide +kernel
theorem d6_3 : decode jdk_52_method_21_code 3 = .ok (.iload 5, 2) := by decide +kernel
theorem d6_5 : decode jdk_52_method_21_code 5 = .ok (.iload 4, 2) := by decide +kernel
theorem d6_7 : decode jdk_52_method_21_code 7 = .ok (.if_icmp .ge 37, 3) := by decide +kernel
theorem d6_10 : decode jdk_52_method_21_code 10 = .ok (.aload_n 0, 1) := by decide +kernel
theorem d6_11 : decode jdk_52_method_21_code 11 = .ok (.iload_n 1, 1) := by decide +kernel
theorem d6_12 : decode jdk_52_method_21_code 12 = .ok (.caload, 1) := by decide +kernel
theorem d6_13 : decode jdk_52_method_21_code 13 = .ok (.istore 6, 2) := by decide +kernel
theorem d6_15 : decode jdk_52_method_21_code 15 = .ok (.iload 6, 2) := by decide +kernel
theorem d6_17 : decode jdk_52_method_21_code 17 = .ok (.sipush 255, 3) := by decide +kernel
theorem d6_20 : decode jdk_52_method_21_code 20 = .ok (.if_icmp .le 6, 3) := by decide +kernel
theorem d6_23 : decode jdk_52_method_21_code 23 = .ok (.iload 5, 2) := by decide +kernel
theorem d6_25 : decode jdk_52_method_21_code 25 = .ok (.ireturn, 1) := by decide +kernel
theorem d6_26 : decode jdk_52_method_21_code 26 = .ok (.aload_n 2, 1) := by decide +kernel
theorem d6_27 : decode jdk_52_method_21_code 27 = .ok (.iload_n 3, 1) := by decide +kernel
theorem d6_28 : decode jdk_52_method_21_code 28 = .ok (.iload 6, 2) := by decide +kernel
theorem d6_30 : decode jdk_52_method_21_code 30 = .ok (.i2b, 1) := by decide +kernel
theorem d6_31 : decode jdk_52_method_21_code 31 = .ok (.bastore, 1) := by decide +kernel
theorem d6_32 : decode jdk_52_method_21_code 32 = .ok (.iinc 1 1, 3) := by decide +kernel
theorem d6_35 : decode jdk_52_method_21_code 35 = .ok (.iinc 3 1, 3) := by decide +kernel
theorem d6_38 : decode jdk_52_method_21_code 38 = .ok (.iinc 5 1, 3) := by decide +kernel
theorem d6_41 : decode jdk_52_method_21_code 41 = .ok (.goto (-38), 3) := by decide +kernel
theorem d6_44 : decode jdk_52_method_21_code 44 = .ok (.iload 4, 2) := by decide +kernel
theorem d6_46 : decode jdk_52_method_21_code 46 = .ok (.ireturn, 1) := by decide +kernel
theorem pd6 : parseMethodDescriptor "([CI[BII)I" = some ⟨[(.array .char), .int, (.array .byte), .int, .int], (some .int)⟩ := by decide +kernel
theorem pn6 : plainFor y6 = true := by first | exact plainFor_of_name (by first | (simp [plainName, overriddenIn]; done) | decide +kernel) | decide +kernel | rfl
set_option maxRecDepth 65536 in
set_option maxHeartbeats 40000000 in
theorem con_cmp2 (l : Launch) (Z : State) (a0 : Array Value) (hw : ∀ d ∈ tables_1, d.before a0 Z = true) (h0 : Heap) (n0 : Nat) (σ : Sg) (a b : Addr) (ka kb : ClassId) (cs : List Int32) (A : Arv Z h0 a ka .char (Int32.ofNat cs.length) (cs.map Value.int) (.int 0)) (B0 : Arv Z h0 b kb .byte (Int32.ofNat cs.length) (List.replicate cs.length (Value.int 0)) (.int 0)) (hp : Lat cs) (nab : a ≠ b) (gb : n0 ≤ b) :
    Con l Z y6 jdk_52_method_21_code 7 ((some .int)) ({ frames := 0, cells := 0, slots := 0, locals := 0 } : Room) [] #[(.ref a), (.int (0 : Int32)), (.ref b), (.int (0 : Int32)), (.int (Int32.ofNat cs.length))] σ h0 n0 (fun v h τ => σ = τ ∧ v = some (.int (Int32.ofNat cs.length)) ∧ Keep h0 h [b] ∧ Arv Z h b kb .byte (Int32.ofNat cs.length) (bv cs) (.int 0)) := by
  refine Con.of_go pn6 (ls := #[.val (.ref a), .val (.int (0 : Int32)), .val (.ref b), .val (.int (0 : Int32)), .val (.int (Int32.ofNat cs.length)), .unset, .unset]) (fun m => by first | (simp [entryFrame, mkF, argsToLocals, Value.category]; done) | rfl) ?_
  intro κ D
  have hl := hp.2
  have loop : ∀ (N i : Nat) (h : Heap) (s6 : Slot), cs.length - i = N → i ≤ cs.length → Keep h0 h [b] → Arv Z h b kb .byte (Int32.ofNat cs.length) ((bv cs).take i ++ List.replicate (cs.length - i) (Value.int 0)) (.int 0) → (s6 = .unset ∨ ∃ w, s6 = .val w ∧ w.category = 1) → Go κ σ h 0 0 3 #[.val (.ref a), .val (.int (Int32.ofNat i)), .val (.ref b), .val (.int (Int32.ofNat i)), .val (.int (Int32.ofNat cs.length)), .val (.int (Int32.ofNat i)), s6] [] := by
    intro N
    induction N using Nat.strongRecOn with
    | _ N ih =>
      intro i h s6 hN hi0 K B hs6
      refine Go.iload D (pc' := 5) d6_3 rfl rfl ?_
      refine Go.iload D (pc' := 7) d6_5 rfl rfl ?_
      refine Go.icmp D (pc' := 44) (pc2 := 10) d6_7 (by decide) (by decide) rfl ?_ ?_
      · intro (hc7 : ¬ (Int32.ofNat i) < (Int32.ofNat cs.length))
        refine Go.iload D (pc' := 46) d6_44 rfl rfl ?_
        refine Go.iret D rfl d6_46 (by decide) (by decide) ?_
        have hi : i = cs.length := by
          have : ¬ i < cs.length := fun q => hc7 ((own_lt (by omega) (by omega)).mpr q)
          omega
        subst hi
        refine ⟨rfl, rfl, K, ?_⟩
        rw [Nat.sub_self, List.replicate_zero, List.append_nil, List.take_of_length_le (by rw [bv_len]; exact Nat.le_refl _)] at B
        exact B
      · intro (hc7 : (Int32.ofNat i) < (Int32.ofNat cs.length))
        refine Go.aloadN D (pc' := 11) d6_10 rfl rfl rfl ?_
        refine Go.iloadN D (pc' := 12) d6_11 rfl rfl ?_
        have hi : i < cs.length := (own_lt (by omega) (by omega)).mp hc7
        refine Go.caload D (pc' := 13) d6_12 rfl (A.keep K (nin1 nab)) (own_nn (by omega)) ((own_lt (by omega) (by omega)).mpr hi) (v := .int cs[i]) (by rw [own_tn (by omega)]; exact cs_at hi _) ?_
        refine Go.istoreU D (pc' := 15) d6_13 rfl rfl hs6 (ls' := #[.val (.ref a), .val (.int (Int32.ofNat i)), .val (.ref b), .val (.int (Int32.ofNat i)), .val (.int (Int32.ofNat cs.length)), .val (.int (Int32.ofNat i)), .val (.int cs[i])]) rfl ?_
        refine Go.iload D (pc' := 17) d6_15 rfl rfl ?_
        refine Go.sipush D (pc' := 20) d6_17 rfl (v := (255 : Int32)) rfl ?_
        refine Go.icmp D (pc' := 26) (pc2 := 23) d6_20 (by decide) (by decide) rfl ?_ ?_
        · intro (hc20 : ¬ (255 : Int32) < cs[i])
          refine Go.aloadN D (pc' := 27) d6_26 rfl rfl rfl ?_
          refine Go.iloadN D (pc' := 28) d6_27 rfl rfl ?_
          refine Go.iload D (pc' := 30) d6_28 rfl rfl ?_
          refine Go.i2b D (pc' := 31) d6_30 rfl  ?_
          refine Go.bastore D (pc' := 32) (i := i) d6_31 rfl B (own_nn (by omega)) ((own_lt (by omega) (by omega)).mpr hi) (own_tn (by omega)) (by simp [bv]; omega) gb (own_bb _) ?_
          intro h2 K2 B2
          refine Go.iinc D (pc' := 35) d6_32 rfl rfl (d := (1 : Int32)) rfl (ls' := #[.val (.ref a), .val (.int ((Int32.ofNat i) + (1 : Int32))), .val (.ref b), .val (.int (Int32.ofNat i)), .val (.int (Int32.ofNat cs.length)), .val (.int (Int32.ofNat i)), .val (.int cs[i])]) rfl ?_
          refine Go.iinc D (pc' := 38) d6_35 rfl rfl (d := (1 : Int32)) rfl (ls' := #[.val (.ref a), .val (.int ((Int32.ofNat i) + (1 : Int32))), .val (.ref b), .val (.int ((Int32.ofNat i) + (1 : Int32))), .val (.int (Int32.ofNat cs.length)), .val (.int (Int32.ofNat i)), .val (.int cs[i])]) rfl ?_
          refine Go.iinc D (pc' := 41) d6_38 rfl rfl (d := (1 : Int32)) rfl (ls' := #[.val (.ref a), .val (.int ((Int32.ofNat i) + (1 : Int32))), .val (.ref b), .val (.int ((Int32.ofNat i) + (1 : Int32))), .val (.int (Int32.ofNat cs.length)), .val (.int ((Int32.ofNat i) + (1 : Int32))), .val (.int cs[i])]) rfl ?_
          refine Go.goto D (pc' := 3) d6_41 (by decide) (by decide) ?_
          rw [own_succ]
          rw [own_bset hi] at B2
          exact ih (cs.length - (i + 1)) (by omega) (i + 1) h2 _ rfl (by omega) (K.trans K2 (fun x hx => Or.inl hx)) B2 (Or.inr ⟨_, rfl, rfl⟩)
        · intro (hc20 : (255 : Int32) < cs[i])
          exact absurd hc20 (lat_le (hp.1 _ (List.getElem_mem hi)))
  refine Go.iconst D (pc' := 1) d6_0 rfl (v := (0 : Int32)) rfl ?_
  refine Go.istore D (pc' := 3) d6_1 rfl (ls' := #[.val (.ref a), .val (.int (0 : Int32)), .val (.ref b), .val (.int (0 : Int32)), .val (.int (Int32.ofNat cs.length)), .val (.int (0 : Int32)), .unset]) rfl ?_
  rw [show (0 : Int32) = Int32.ofNat 0 from rfl]
  exact loop (cs.length - 0) 0 h0 _ rfl (by omega) (Keep.refl _ _) (by simpa using B0) (Or.inl rfl)
abbrev y5 : MethodName := ⟨"java/lang/StringUTF16", "compress", "([CII)[B"⟩
theorem d5_0 : decode jdk_52_method_16_code 0 = .ok (.iload_n 2, 1) := by decide +kernel
theorem d5_1 : decode jdk_52_method_16_code 1 = .ok (.newarray .byte, 2) := by decide +kernel
theorem d5_3 : decode jdk_52_method_16_code 3 = .ok (.astore_n 3, 1) := by decide +kernel
theorem d5_4 : decode jdk_52_method_16_code 4 = .ok (.aload_n 0, 1) := by decide +kernel
theorem d5_5 : decode jdk_52_method_16_code 5 = .ok (.iload_n 1, 1) := by decide +kernel
theorem d5_6 : decode jdk_52_method_16_code 6 = .ok (.aload_n 3, 1) := by decide +kernel
theorem d5_7 : decode jdk_52_method_16_code 7 = .ok (.iconst 0, 1) := by decide +kernel
theorem d5_8 : decode jdk_52_method_16_code 8 = .ok (.iload_n 2, 1) := by decide +kernel
theorem d5_9 : decode jdk_52_method_16_code 9 = .ok (.invokestatic 115, 3) := by decide +kernel
theorem d5_12 : decode jdk_52_method_16_code 12 = .ok (.istore 4, 2) := by decide +kernel
theorem d5_14 : decode jdk_52_method_16_code 14 = .ok (.iload 4, 2) := by decide +kernel
theorem d5_16 : decode jdk_52_method_16_code 16 = .ok (.iload_n 2, 1) := by decide +kernel
theorem d5_17 : decode jdk_52_method_16_code 17 = .ok (.if_icmp .eq 40, 3) := by decide +kernel
theorem d5_57 : decode jdk_52_method_16_code 57 = .ok (.aload_n 3, 1) := by decide +kernel
theorem d5_58 : decode jdk_52_method_16_code 58 = .ok (.areturn, 1) := by decide +kernel
theorem pd5 : parseMethodDescriptor "([CII)[B" = some ⟨[(.array .char), .int, .int], (some (.array .byte))⟩ := by decide +kernel
theorem pn5 : plainFor y5 = true := by first | exact plainFor_of_name (by first | (simp [plainName, overriddenIn]; done) | decide +kernel) | decide +kernel | rfl
set_option maxRecDepth 65536 in
set_option maxHeartbeats 40000000 in
theorem con_cmp1 (l : Launch) (Z : State) (a0 : Array Value) (hw : ∀ d ∈ tables_1, d.before a0 Z = true) (h0 : Heap) (n0 : Nat) (Z0 : n0 ≤ h0.size) (σ : Sg) (a : Addr) (ka : ClassId) (cs : List Int32) (A : Arv Z h0 a ka .char (Int32.ofNat cs.length) (cs.map Value.int) (.int 0)) (hp : Lat cs) :
    Con l Z y5 jdk_52_method_16_code 6 ((some (.array .byte))) ({ frames := 1, cells := 1, slots := 64, locals := 18 } : Room) [] #[(.ref a), (.int (0 : Int32)), (.int (Int32.ofNat cs.length))] σ h0 n0 (fun v h τ => σ = τ ∧ ∃ b kb, v = some (.ref b) ∧ h0.size ≤ b ∧ Ext h0 h ∧ Arv Z h b kb .byte (Int32.ofNat cs.length) (bv cs) (.int 0)) := by
  refine Con.of_go pn5 (ls := #[.val (.ref a), .val (.int (0 : Int32)), .val (.int (Int32.ofNat cs.length)), .unset, .unset, .unset]) (fun m => by first | (simp [entryFrame, mkF, argsToLocals, Value.category]; done) | rfl) ?_
  intro κ D
  have hl := hp.2
  have qa := own_ltn A.lt
  refine Go.iloadN D (pc' := 1) d5_0 rfl rfl ?_
  refine Go.newP D (pc' := 3) (aty := .byte) (cap := 64) (ce' := 1) (sl' := 64) (hw _ (List.mem_of_getElem? (i := 23) rfl)) d5_1 rfl (own_nn (by omega)) (by rw [own_tn (by omega)]; omega) (by decide) rfl rfl (by decide) (by decide) ?_
  intro h1 b kb gb E1 B1
  refine Go.astoreN D (pc' := 4) d5_3 rfl rfl (ls' := #[.val (.ref a), .val (.int (0 : Int32)), .val (.int (Int32.ofNat cs.length)), .val (.ref b), .unset, .unset]) rfl ?_
  refine Go.aloadN D (pc' := 5) d5_4 rfl rfl rfl ?_
  refine Go.iloadN D (pc' := 6) d5_5 rfl rfl ?_
  refine Go.aloadN D (pc' := 7) d5_6 rfl rfl rfl ?_
  refine Go.iconst D (pc' := 8) d5_7 rfl (v := (0 : Int32)) rfl ?_
  refine Go.iloadN D (pc' := 9) d5_8 rfl rfl ?_
  refine Go.callS D (argsL := [(.ref a), (.int (0 : Int32)), (.ref b), (.int (0 : Int32)), (.int (Int32.ofNat cs.length))]) (rest := []) (pc' := 12) (ce' := 1) (sl' := 64) (con_cmp2 l Z a0 hw h1 n0 σ a b ka kb cs (A.ext E1) (B1.pad (vs' := List.replicate cs.length (.int 0)) (fun i => pad_rep [] (.int 0) cs.length i)) hp (own_ne (by omega)) (by omega)) (hw _ (List.mem_of_getElem? (i := 24) rfl)) (hw _ (List.mem_of_getElem? (i := 25) rfl)) (hw _ (List.mem_of_getElem? (i := 21) rfl)) (hw _ (List.mem_of_getElem? (i := 26) rfl)) (by decide) d5_9 rfl pd6 rfl rfl rfl (by decide) (W := 0) rfl (by decide) (by decide) (by decide) (by decide) (by decide) ?_
  intro v9 h2 σ9 q9
  obtain ⟨rfl, rfl, K2, B2⟩ := q9
  show Go κ σ h2 1 64 12 #[.val (.ref a), .val (.int (0 : Int32)), .val (.int (Int32.ofNat cs.length)), .val (.ref b), .unset, .unset] [(.int (Int32.ofNat cs.length))]
  refine Go.istore D (pc' := 14) d5_12 rfl (ls' := #[.val (.ref a), .val (.int (0 : Int32)), .val (.int (Int32.ofNat cs.length)), .val (.ref b), .val (.int (Int32.ofNat cs.length)), .unset]) rfl ?_
  refine Go.iload D (pc' := 16) d5_14 rfl rfl ?_
  refine Go.iloadN D (pc' := 17) d5_16 rfl rfl ?_
  refine Go.icmp D (pc' := 57) (pc2 := 20) d5_17 (by decide) (by decide) rfl ?_ ?_
  · intro (hc17 : (Int32.ofNat cs.length) = (Int32.ofNat cs.length))
    refine Go.aloadN D (pc' := 58) d5_57 rfl rfl rfl ?_
    refine Go.aret D rfl rfl rfl d5_58 (by decide) (by decide) ?_
    exact ⟨rfl, b, kb, rfl, by omega, E1.keepN K2 (by omega), B2⟩
  · intro (hc17 : ¬ (Int32.ofNat cs.length) = (Int32.ofNat cs.length))
    exact absurd rfl hc17
abbrev y7 : MethodName := ⟨"java/lang/StringUTF16", "coderFromArrayLen", "([BI)B"⟩
theorem d7_0 : decode jdk_52_method_15_code 0 = .ok (.iload_n 1, 1) := by decide +kernel
theorem d7_1 : decode jdk_52_method_15_code 1 = .ok (.aload_n 0, 1) := by decide +kernel
theorem d7_2 : decode jdk_52_method_15_code 2 = .ok (.arraylength, 1) := by decide +kernel
theorem d7_3 : decode jdk_52_method_15_code 3 = .ok (.isub, 1) := by decide +kernel
theorem d7_4 : decode jdk_52_method_15_code 4 = .ok (.bipush 31, 2) := by decide +kernel
theorem d7_6 : decode jdk_52_method_15_code 6 = .ok (.iushr, 1) := by decide +kernel
theorem d7_7 : decode jdk_52_method_15_code 7 = .ok (.i2b, 1) := by decide +kernel
theorem d7_8 : decode jdk_52_method_15_code 8 = .ok (.ireturn, 1) := by decide +kernel
theorem pd7 : parseMethodDescriptor "([BI)B" = some ⟨[(.array .byte), .int], (some .byte)⟩ := by decide +kernel
theorem pn7 : plainFor y7 = true := by first | exact plainFor_of_name (by first | (simp [plainName, overriddenIn]; done) | decide +kernel) | decide +kernel | rfl
set_option maxRecDepth 65536 in
set_option maxHeartbeats 40000000 in
theorem con_coder (l : Launch) (Z : State) (a0 : Array Value) (hw : ∀ d ∈ tables_1, d.before a0 Z = true) (h0 : Heap) (n0 : Nat) (σ : Sg) (b : Addr) (kb : ClassId) (n : Int32) (vs : List Value) (B : Arv Z h0 b kb .byte n vs (.int 0)) :
    Con l Z y7 jdk_52_method_15_code 2 ((some .byte)) ({ frames := 0, cells := 0, slots := 0, locals := 0 } : Room) [] #[(.ref b), (.int n)] σ h0 n0 (fun v h τ => h0 = h ∧ σ = τ ∧ v = some (.int 0)) := by
  refine Con.of_go pn7 (ls := #[.val (.ref b), .val (.int n)]) (fun m => by first | (simp [entryFrame, mkF, argsToLocals, Value.category]; done) | rfl) ?_
  intro κ D
  refine Go.iloadN D (pc' := 1) d7_0 rfl rfl ?_
  refine Go.aloadN D (pc' := 2) d7_1 rfl rfl rfl ?_
  refine Go.alen D (pc' := 3) d7_2 rfl B ?_
  refine Go.isub D (pc' := 4) d7_3 rfl  ?_
  refine Go.bipush D (pc' := 6) d7_4 rfl (v := (31 : Int32)) rfl ?_
  refine Go.iushr D (pc' := 7) d7_6 rfl  ?_
  refine Go.i2b D (pc' := 8) d7_7 rfl  ?_
  have e0 : ((ushr (n - n) (31 : Int32)).toInt8).toInt32 = (0 : Int32) := by rw [Int32.sub_self]; decide
  rw [e0]
  refine Go.bret D rfl rfl d7_8 (by decide) (by decide) ?_
  exact ⟨rfl, rfl, rfl⟩
abbrev y3 : MethodName := ⟨"java/lang/String", "<init>", "([CIILjava/lang/Void;)V"⟩
theorem d3_0 : decode jdk_42_method_149_code 0 = .ok (.aload_n 0, 1) := by decide +kernel
theorem d3_1 : decode jdk_42_method_149_code 1 = .ok (.invokespecial 1, 3) := by decide +kernel
theorem d3_4 : decode jdk_42_method_149_code 4 = .ok (.iload_n 3, 1) := by decide +kernel
theorem d3_5 : decode jdk_42_method_149_code 5 = .ok (.ifCond .ne 22, 3) := by decide +kernel
theorem d3_8 : decode jdk_42_method_149_code 8 = .ok (.aload_n 0, 1) := by decide +kernel
theorem d3_9 : decode jdk_42_method_149_code 9 = .ok (.ldc 7, 2) := by decide +kernel
theorem d3_11 : decode jdk_42_method_149_code 11 = .ok (.getfield 9, 3) := by decide +kernel
theorem d3_14 : decode jdk_42_method_149_code 14 = .ok (.putfield 9, 3) := by decide +kernel
theorem d3_17 : decode jdk_42_method_149_code 17 = .ok (.aload_n 0, 1) := by decide +kernel
theorem d3_18 : decode jdk_42_method_149_code 18 = .ok (.ldc 7, 2) := by decide +kernel
theorem d3_20 : decode jdk_42_method_149_code 20 = .ok (.getfield 15, 3) := by decide +kernel
theorem d3_23 : decode jdk_42_method_149_code 23 = .ok (.putfield 15, 3) := by decide +kernel
theorem d3_26 : decode jdk_42_method_149_code 26 = .ok (.return_, 1) := by decide +kernel
theorem d3_27 : decode jdk_42_method_149_code 27 = .ok (.getstatic 38, 3) := by decide +kernel
theorem d3_30 : decode jdk_42_method_149_code 30 = .ok (.ifCond .eq 28, 3) := by decide +kernel
theorem d3_33 : decode jdk_42_method_149_code 33 = .ok (.aload_n 1, 1) := by decide +kernel
theorem d3_34 : decode jdk_42_method_149_code 34 = .ok (.iload_n 2, 1) := by decide +kernel
theorem d3_35 : decode jdk_42_method_149_code 35 = .ok (.iload_n 3, 1) := by decide +kernel
theorem d3_36 : decode jdk_42_method_149_code 36 = .ok (.invokestatic 177, 3) := by decide +kernel
theorem d3_39 : decode jdk_42_method_149_code 39 = .ok (.astore 5, 2) := by decide +kernel
theorem d3_41 : decode jdk_42_method_149_code 41 = .ok (.aload_n 0, 1) := by decide +kernel
theorem d3_42 : decode jdk_42_method_149_code 42 = .ok (.aload 5, 2) := by decide +kernel
theorem d3_44 : decode jdk_42_method_149_code 44 = .ok (.iload_n 3, 1) := by decide +kernel
theorem d3_45 : decode jdk_42_method_149_code 45 = .ok (.invokestatic 47, 3) := by decide +kernel
theorem d3_48 : decode jdk_42_method_149_code 48 = .ok (.putfield 15, 3) := by decide +kernel
theorem d3_51 : decode jdk_42_method_149_code 51 = .ok (.aload_n 0, 1) := by decide +kernel
theorem d3_52 : decode jdk_42_method_149_code 52 = .ok (.aload 5, 2) := by decide +kernel
theorem d3_54 : decode jdk_42_method_149_code 54 = .ok (.putfield 9, 3) := by decide +kernel
theorem d3_57 : decode jdk_42_method_149_code 57 = .ok (.return_, 1) := by decide +kernel
theorem pd3 : parseMethodDescriptor "([CIILjava/lang/Void;)V" = some ⟨[(.array .char), .int, .int, (.object "java/lang/Void")], none⟩ := by decide +kernel
theorem pn3 : plainFor y3 = true := by first | exact plainFor_of_name (by first | (simp [plainName, overriddenIn]; done) | decide +kernel) | decide +kernel | rfl
set_option maxRecDepth 65536 in
set_option maxHeartbeats 40000000 in
theorem con_strE4 (l : Launch) (Z : State) (a0 : Array Value) (hw : ∀ d ∈ tables_1, d.before a0 Z = true) (h0 : Heap) (n0 : Nat) (s a : Addr) (g0 : n0 ≤ s) (E : Exa Z h0 s "java/lang/String") (Fv : Fld Z h0 s "java/lang/String" "value" "[B" .null) (Fc : Fld Z h0 s "java/lang/String" "coder" "B" (.int 0)) (hh : Jvm.Lit.constHeld Z "java/lang/String" 7) (hcw : Jvm.Lit.compactW.before a0 Z = true) (L : List (String × Nat × String × Addr)) (K0 : CsOk CS Z h0 L) :
    Con l Z y3 jdk_42_method_149_code 6 none ({ frames := 1, cells := 4, slots := 8, locals := 14 } : Room) [] #[(.ref s), (.ref a), (.int (0 : Int32)), (.int (0 : Int32)), (.null)] (some L) h0 n0 (fun v h τ => v = none ∧ Keep h0 h [s] ∧ Str Z h s [] ∧ ∃ L', τ = some L' ∧ CsOk CS Z h L') := by
  refine Con.of_go pn3 (ls := #[.val (.ref s), .val (.ref a), .val (.int (0 : Int32)), .val (.int (0 : Int32)), .val (.null), .unset]) (fun m => by first | (simp [entryFrame, mkF, argsToLocals, Value.category]; done) | rfl) ?_
  intro κ D
  have hns : ∀ (h : Heap) (LL : List (String × Nat × String × Addr)), Fld Z h s "java/lang/String" "value" "[B" .null → CsOk CS Z h LL → ∀ q ∈ LL, q.2.2.2 ≠ s := fun h LL F K q hq => by
    obtain ⟨-, -, -, b, k, F2, -⟩ := K q hq
    exact Fld.ne F2 F (fun z => nomatch z)
  refine Go.aloadN D (pc' := 1) d3_0 rfl rfl rfl ?_
  refine Go.initO D (pc' := 4) (hw _ (List.mem_of_getElem? (i := 15) rfl)) (hw _ (List.mem_of_getElem? (i := 16) rfl)) (hw _ (List.mem_of_getElem? (i := 17) rfl)) d3_1 rfl rfl (by decide) (W := 0) rfl (by decide) ?_
  refine Go.iloadN D (pc' := 5) d3_4 rfl rfl ?_
  refine Go.ifc D (pc' := 27) (pc2 := 8) d3_5 (by decide) (by decide) rfl (fun (hc : ¬ (0 : Int32) = 0) => absurd hc (by decide)) (fun _ => ?_)
  refine Go.aloadN D (pc' := 9) d3_8 rfl rfl rfl ?_
  refine Go.ldcT D (pc' := 11) (n := 0) (ce' := 2) (sl' := 4) (vs := tb "") (z := Int32.ofNat (tb "").length) (hw _ (List.mem_of_getElem? (i := 34) rfl)) (wS hw) hh hcw ⟨by decide, rfl⟩ (by decide) (by decide) (K0.has (by decide)) (fun a ha => (K0 _ ha).2) d3_9 rfl (by decide) (by decide) rfl rfl (by decide) (by decide) ?_
  intro h1 c1 L1 E1 m1 l1 S1
  have K1 := K0.step E1 (by decide) l1 S1
  have n1 := hns h1 L1 (Fv.ext E1) K1
  obtain ⟨x1, x2, b, kb, x3, x4⟩ := id S1
  refine Go.getF D (pc' := 14) (hw _ (List.mem_of_getElem? (i := 32) rfl)) d3_11 rfl x3 ?_
  refine Go.putF D (pc' := 17) (hw _ (List.mem_of_getElem? (i := 32) rfl)) d3_14 rfl (Fv.ext E1) (E.ext E1) (Or.inr ⟨(hw _ (List.mem_of_getElem? (i := 33) rfl)), rfl, rfl⟩) (hw _ (List.mem_of_getElem? (i := 1) rfl)) (ty := (.array .byte)) (by decide) rfl rfl g0 ?_
  intro h2 W2
  have K2 := K1.wr W2 n1 (E.ext E1) (hw _ (List.mem_of_getElem? (i := 1) rfl))
  refine Go.aloadN D (pc' := 18) d3_17 rfl rfl rfl ?_
  refine Go.ldcA D (pc' := 20) (hw _ (List.mem_of_getElem? (i := 34) rfl)) m1 d3_18 rfl ?_
  have S2 := S1.wr W2 (n1 _ m1) (E.ext E1) (hw _ (List.mem_of_getElem? (i := 1) rfl))
  refine Go.getF D (pc' := 23) (hw _ (List.mem_of_getElem? (i := 30) rfl)) d3_20 rfl S2.2.1 ?_
  refine Go.putF D (pc' := 26) (hw _ (List.mem_of_getElem? (i := 30) rfl)) d3_23 rfl ((Fc.ext E1).other W2 (Or.inr (slot_ne (Or.inr (hw _ (List.mem_of_getElem? (i := 31) rfl))) (Or.inr (hw _ (List.mem_of_getElem? (i := 33) rfl))) (by decide) (t := .byte) (t' := .array .byte) (by decide) (by decide)))) ((E.ext E1).wr W2) (Or.inr ⟨(hw _ (List.mem_of_getElem? (i := 31) rfl)), rfl, rfl⟩) (hw _ (List.mem_of_getElem? (i := 1) rfl)) (ty := .byte) (by decide) rfl rfl g0 ?_
  intro h4 W4
  refine Go.vret D rfl d3_26 (by decide) (by decide) ?_
  have E3' := (E.ext E1).wr W2
  have V3 := (Fv.ext E1).same W2
  have nb : b ≠ s := Ne.symm (Exa.neArv (E.ext E1) x4 (hw _ (List.mem_of_getElem? (i := 1) rfl)))
  refine ⟨rfl, ?_, ⟨⟨E3'.wr W4, ((Fc.ext E1).other W2 (Or.inr (slot_ne (Or.inr (hw _ (List.mem_of_getElem? (i := 31) rfl))) (Or.inr (hw _ (List.mem_of_getElem? (i := 33) rfl))) (by decide) (t := .byte) (t' := .array .byte) (by decide) (by decide)))).same W4, b, kb, V3.other W4 (Or.inr (slot_ne (Or.inr (hw _ (List.mem_of_getElem? (i := 33) rfl))) (Or.inr (hw _ (List.mem_of_getElem? (i := 31) rfl))) (by decide) (t := .array .byte) (t' := .byte) (by decide) (by decide))), (x4.other W2 nb).other W4 nb⟩, by simp [Lat]⟩, L1, rfl, K2.wr W4 n1 E3' (hw _ (List.mem_of_getElem? (i := 1) rfl))⟩
  exact (((Keep.refl _ _).ext E1).wr W2 (Or.inl (by simp))).wr W4 (Or.inl (by simp))
set_option maxRecDepth 65536 in
set_option maxHeartbeats 40000000 in
theorem con_strN4 (l : Launch) (Z : State) (a0 : Array Value) (hw : ∀ d ∈ tables_1, d.before a0 Z = true) (h0 : Heap) (n0 : Nat) (Z0 : n0 ≤ h0.size) (σ : Sg) (s : Addr) (a : Addr) (ka : ClassId) (cs : List Int32) (A : Arv Z h0 a ka .char (Int32.ofNat cs.length) (cs.map Value.int) (.int 0)) (hp : Lat cs) (hne : cs ≠ []) (cz : Int32) (hcz : ¬ cz = 0) (O2 : Sta Z Z.heap "java/lang/String" "COMPACT_STRINGS" "Z" (.int cz)) (g0 : n0 ≤ s) (E : Exa Z h0 s "java/lang/String") (Fv : Fld Z h0 s "java/lang/String" "value" "[B" .null) (Fc : Fld Z h0 s "java/lang/String" "coder" "B" (.int 0)) :
    Con l Z y3 jdk_42_method_149_code 6 none ({ frames := 2, cells := 1, slots := 64, locals := 48 } : Room) [] #[(.ref s), (.ref a), (.int (0 : Int32)), (.int (Int32.ofNat cs.length)), (.null)] σ h0 n0 (fun v h τ => σ = τ ∧ v = none ∧ Keep h0 h [s] ∧ Str Z h s cs) := by
  refine Con.of_go pn3 (ls := #[.val (.ref s), .val (.ref a), .val (.int (0 : Int32)), .val (.int (Int32.ofNat cs.length)), .val (.null), .unset]) (fun m => by first | (simp [entryFrame, mkF, argsToLocals, Value.category]; done) | rfl) ?_
  intro κ D
  have hl := hp.2
  have qs := own_ltn E.lt
  have hpos : 0 < cs.length := List.length_pos_iff.mpr hne
  refine Go.aloadN D (pc' := 1) d3_0 rfl rfl rfl ?_
  refine Go.initO D (pc' := 4) (hw _ (List.mem_of_getElem? (i := 15) rfl)) (hw _ (List.mem_of_getElem? (i := 16) rfl)) (hw _ (List.mem_of_getElem? (i := 17) rfl)) d3_1 rfl rfl (by decide) (W := 0) rfl (by decide) ?_
  refine Go.iloadN D (pc' := 5) d3_4 rfl rfl ?_
  refine Go.ifc D (pc' := 27) (pc2 := 8) d3_5 (by decide) (by decide) rfl ?_ ?_
  · intro (hc5 : ¬ (Int32.ofNat cs.length) = 0)
    refine Go.getS D (pc' := 30) (hw _ (List.mem_of_getElem? (i := 18) rfl)) d3_27 rfl O2 ?_
    refine Go.ifc D (pc' := 58) (pc2 := 33) d3_30 (by decide) (by decide) rfl ?_ ?_
    · intro (hc30 : cz = 0)
      exact absurd hc30 hcz
    · intro (hc30 : ¬ cz = 0)
      refine Go.aloadN D (pc' := 34) d3_33 rfl rfl rfl ?_
      refine Go.iloadN D (pc' := 35) d3_34 rfl rfl ?_
      refine Go.iloadN D (pc' := 36) d3_35 rfl rfl ?_
      refine Go.callS D (argsL := [(.ref a), (.int (0 : Int32)), (.int (Int32.ofNat cs.length))]) (rest := []) (pc' := 39) (ce' := 1) (sl' := 64) (con_cmp1 l Z a0 hw h0 n0 Z0 σ a ka cs A hp) (hw _ (List.mem_of_getElem? (i := 19) rfl)) (hw _ (List.mem_of_getElem? (i := 20) rfl)) (hw _ (List.mem_of_getElem? (i := 21) rfl)) (hw _ (List.mem_of_getElem? (i := 22) rfl)) (by decide) d3_36 rfl pd5 rfl rfl rfl (by decide) (W := 0) rfl (by decide) (by decide) (by decide) (by decide) (by decide) ?_
      intro v36 h1 σ36 q36
      obtain ⟨rfl, b, kb, rfl, gb, E1, B1⟩ := q36
      show Go κ σ h1 1 64 39 #[.val (.ref s), .val (.ref a), .val (.int (0 : Int32)), .val (.int (Int32.ofNat cs.length)), .val (.null), .unset] [(.ref b)]
      refine Go.astore D (pc' := 41) d3_39 rfl rfl (ls' := #[.val (.ref s), .val (.ref a), .val (.int (0 : Int32)), .val (.int (Int32.ofNat cs.length)), .val (.null), .val (.ref b)]) rfl ?_
      refine Go.aloadN D (pc' := 42) d3_41 rfl rfl rfl ?_
      refine Go.aload D (pc' := 44) d3_42 rfl rfl rfl ?_
      refine Go.iloadN D (pc' := 45) d3_44 rfl rfl ?_
      refine Go.callS D (argsL := [(.ref b), (.int (Int32.ofNat cs.length))]) (rest := [(.ref s)]) (pc' := 48) (ce' := 1) (sl' := 64) (con_coder l Z a0 hw h1 n0 σ b kb _ _ B1) (hw _ (List.mem_of_getElem? (i := 27) rfl)) (hw _ (List.mem_of_getElem? (i := 28) rfl)) (hw _ (List.mem_of_getElem? (i := 21) rfl)) (hw _ (List.mem_of_getElem? (i := 29) rfl)) (by decide) d3_45 rfl pd7 rfl rfl rfl (by decide) (W := 1) rfl (by decide) (by decide) (by decide) (by decide) (by decide) ?_
      intro v45 h2 σ45 q45
      obtain ⟨rfl, rfl, rfl⟩ := q45
      show Go κ σ h1 1 64 48 #[.val (.ref s), .val (.ref a), .val (.int (0 : Int32)), .val (.int (Int32.ofNat cs.length)), .val (.null), .val (.ref b)] [(.int (0 : Int32)), (.ref s)]
      refine Go.putF D (pc' := 51) (hw _ (List.mem_of_getElem? (i := 30) rfl)) d3_48 rfl (Fc.ext E1) (E.ext E1) (Or.inr ⟨(hw _ (List.mem_of_getElem? (i := 31) rfl)), rfl, rfl⟩) (hw _ (List.mem_of_getElem? (i := 1) rfl)) (ty := .byte) (by decide) rfl rfl g0 ?_
      intro h3 W3
      refine Go.aloadN D (pc' := 52) d3_51 rfl rfl rfl ?_
      refine Go.aload D (pc' := 54) d3_52 rfl rfl rfl ?_
      refine Go.putF D (pc' := 57) (hw _ (List.mem_of_getElem? (i := 32) rfl)) d3_54 rfl ((Fv.ext E1).other W3 (Or.inr (slot_ne (Or.inr (hw _ (List.mem_of_getElem? (i := 33) rfl))) (Or.inr (hw _ (List.mem_of_getElem? (i := 31) rfl))) (by decide) (t := .array .byte) (t' := .byte) (by decide) (by decide)))) ((E.ext E1).wr W3) (Or.inr ⟨(hw _ (List.mem_of_getElem? (i := 33) rfl)), rfl, rfl⟩) (hw _ (List.mem_of_getElem? (i := 1) rfl)) (ty := (.array .byte)) (by decide) rfl rfl g0 ?_
      intro h4 W4
      refine Go.vret D rfl d3_57 (by decide) (by decide) ?_
      have nb : b ≠ s := own_ne (by omega)
      refine ⟨rfl, rfl, ?_, ⟨((E.ext E1).wr W3).wr W4, ((Fc.ext E1).same W3).other W4 (Or.inr (slot_ne (Or.inr (hw _ (List.mem_of_getElem? (i := 31) rfl))) (Or.inr (hw _ (List.mem_of_getElem? (i := 33) rfl))) (by decide) (t := .byte) (t' := .array .byte) (by decide) (by decide))), b, kb, ((Fv.ext E1).other W3 (Or.inr (slot_ne (Or.inr (hw _ (List.mem_of_getElem? (i := 33) rfl))) (Or.inr (hw _ (List.mem_of_getElem? (i := 31) rfl))) (by decide) (t := .array .byte) (t' := .byte) (by decide) (by decide)))).same W4, (B1.other W3 nb).other W4 nb⟩, hp⟩
      exact (((Keep.refl _ _).ext E1).wr W3 (Or.inl (by simp))).wr W4 (Or.inl (by simp))
  · intro (hc5 : (Int32.ofNat cs.length) = 0)
    exact absurd (own_inj (j := 0) (by omega) (by omega) hc5) (by omega)
abbrev y9 : MethodName := ⟨"java/util/Objects", "requireNonNull", "(Ljava/lang/Object;Ljava/lang/String;)Ljava/lang/Object;"⟩
theorem d9_0 : decode jdk_31_method_11_code 0 = .ok (.aload_n 0, 1) := by decide +kernel
theorem d9_1 : decode jdk_31_method_11_code 1 = .ok (.ifnonnull 12, 3) := by decide +kernel
theorem d9_13 : decode jdk_31_method_11_code 13 = .ok (.aload_n 0, 1) := by decide +kernel
theorem d9_14 : decode jdk_31_method_11_code 14 = .ok (.areturn, 1) := by decide +kernel
theorem pd9 : parseMethodDescriptor "(Ljava/lang/Object;Ljava/lang/String;)Ljava/lang/Object;" = some ⟨[(.object "java/lang/Object"), (.object "java/lang/String")], (some (.object "java/lang/Object"))⟩ := by decide +kernel
theorem pn9 : plainFor y9 = true := by first | exact plainFor_of_name (by first | (simp [plainName, overriddenIn]; done) | decide +kernel) | decide +kernel | rfl
set_option maxRecDepth 65536 in
set_option maxHeartbeats 40000000 in
theorem con_rnn (l : Launch) (Z : State) (a0 : Array Value) (hw : ∀ d ∈ tables_1, d.before a0 Z = true) (h0 : Heap) (n0 : Nat) (σ : Sg) (s u : Addr) :
    Con l Z y9 jdk_31_method_11_code 2 ((some (.object "java/lang/Object"))) ({ frames := 0, cells := 0, slots := 0, locals := 0 } : Room) [] #[(.ref s), (.ref u)] σ h0 n0 (fun v h τ => h0 = h ∧ σ = τ ∧ v = some (.ref s)) := by
  refine Con.of_go pn9 (ls := #[.val (.ref s), .val (.ref u)]) (fun m => by first | (simp [entryFrame, mkF, argsToLocals, Value.category]; done) | rfl) ?_
  intro κ D
  refine Go.aloadN D (pc' := 1) d9_0 rfl rfl rfl ?_
  refine Go.ifnonnullY D (pc' := 13) d9_1 (by decide) (by decide) ?_
  refine Go.aloadN D (pc' := 14) d9_13 rfl rfl rfl ?_
  refine Go.aret D rfl rfl rfl d9_14 (by decide) (by decide) ?_
  exact ⟨rfl, rfl, rfl⟩
theorem own_shr0 (x : Int32) : x >>> ((0 : Int32) &&& 31) = x := by
  apply Int32.toInt_inj.mp
  rw [c_ishr x 0 0 (by decide)]
  simp
theorem byte_back {c : Int32} (h : ¬ c < 0 ∧ c < 256) : (c.toInt8.toInt32 &&& 255) = c := by
  have a := c_i2b c
  have b := c_mask (c.toInt8.toInt32) 255 8 (by decide) (by decide)
  simp only [Int32.lt_iff_toInt_lt, show (0 : Int32).toInt = 0 from rfl, show (256 : Int32).toInt = 256 from rfl] at h
  apply Int32.toInt_inj.mp
  rw [b, show ((2 ^ 8 : Nat) : Int) = 256 from rfl]
  omega
theorem char_nar {c : Int32} (h : ¬ c < 0 ∧ c < 256) : c.toUInt32.toUInt16.toUInt32.toInt32 = c := by
  have e := i2c_mask c.toInt8.toInt32
  rw [byte_back h] at e
  exact e

abbrev y16 : MethodName := ⟨"java/lang/String", "coder", "()B"⟩
theorem d16_0 : decode jdk_42_method_152_code 0 = .ok (.getstatic 38, 3) := by decide +kernel
theorem d16_3 : decode jdk_42_method_152_code 3 = .ok (.ifCond .eq 10, 3) := by decide +kernel
theorem d16_6 : decode jdk_42_method_152_code 6 = .ok (.aload_n 0, 1) := by decide +kernel
theorem d16_7 : decode jdk_42_method_152_code 7 = .ok (.getfield 15, 3) := by decide +kernel
theorem d16_10 : decode jdk_42_method_152_code 10 = .ok (.goto 4, 3) := by decide +kernel
theorem d16_13 : decode jdk_42_method_152_code 13 = .ok (.iconst 1, 1) := by decide +kernel
theorem d16_14 : decode jdk_42_method_152_code 14 = .ok (.ireturn, 1) := by decide +kernel
theorem pd16 : parseMethodDescriptor "()B" = some ⟨[], (some .byte)⟩ := by decide +kernel
theorem pn16 : plainFor y16 = true := by first | exact plainFor_of_name (by first | (simp [plainName, overriddenIn]; done) | decide +kernel) | decide +kernel | rfl
set_option maxRecDepth 65536 in
set_option maxHeartbeats 40000000 in
theorem con_scoder (l : Launch) (Z : State) (a0 : Array Value) (hw : ∀ d ∈ tables_1, d.before a0 Z = true) (h0 : Heap) (n0 : Nat) (σ : Sg) (s : Addr) (F : Fld Z h0 s "java/lang/String" "coder" "B" (.int 0)) (cz : Int32) (hcz : ¬ cz = 0) (O2 : Sta Z Z.heap "java/lang/String" "COMPACT_STRINGS" "Z" (.int cz)) :
    Con l Z y16 jdk_42_method_152_code 1 ((some .byte)) ({ frames := 0, cells := 0, slots := 0, locals := 0 } : Room) [] #[(.ref s)] σ h0 n0 (fun v h τ => h0 = h ∧ σ = τ ∧ v = some (.int 0)) := by
  refine Con.of_go pn16 (ls := #[.val (.ref s)]) (fun m => by first | (simp [entryFrame, mkF, argsToLocals, Value.category]; done) | rfl) ?_
  intro κ D
  refine Go.getS D (pc' := 3) (hw _ (List.mem_of_getElem? (i := 18) rfl)) d16_0 rfl O2 ?_
  refine Go.ifc D (pc' := 13) (pc2 := 6) d16_3 (by decide) (by decide) rfl ?_ ?_
  · intro (hc3 : cz = 0)
    exact absurd hc3 hcz
  · intro (hc3 : ¬ cz = 0)
    refine Go.aloadN D (pc' := 7) d16_6 rfl rfl rfl ?_
    refine Go.getF D (pc' := 10) (hw _ (List.mem_of_getElem? (i := 30) rfl)) d16_7 rfl F ?_
    refine Go.goto D (pc' := 14) d16_10 (by decide) (by decide) ?_
    refine Go.bret D rfl rfl d16_14 (by decide) (by decide) ?_
    exact ⟨rfl, rfl, rfl⟩
abbrev y15 : MethodName := ⟨"java/lang/String", "length", "()I"⟩
theorem d15_0 : decode jdk_42_method_54_code 0 = .ok (.aload_n 0, 1) := by decide +kernel
theorem d15_1 : decode jdk_42_method_54_code 1 = .ok (.getfield 9, 3) := by decide +kernel
theorem d15_4 : decode jdk_42_method_54_code 4 = .ok (.arraylength, 1) := by decide +kernel
theorem d15_5 : decode jdk_42_method_54_code 5 = .ok (.aload_n 0, 1) := by decide +kernel
theorem d15_6 : decode jdk_42_method_54_code 6 = .ok (.invokevirtual 335, 3) := by decide +kernel
theorem d15_9 : decode jdk_42_method_54_code 9 = .ok (.ishr, 1) := by decide +kernel
theorem d15_10 : decode jdk_42_method_54_code 10 = .ok (.ireturn, 1) := by decide +kernel
theorem pd15 : parseMethodDescriptor "()I" = some ⟨[], (some .int)⟩ := by decide +kernel
theorem pn15 : plainFor y15 = true := by first | exact plainFor_of_name (by first | (simp [plainName, overriddenIn]; done) | decide +kernel) | decide +kernel | rfl
set_option maxRecDepth 65536 in
set_option maxHeartbeats 40000000 in
theorem con_slen (l : Launch) (Z : State) (a0 : Array Value) (hw : ∀ d ∈ tables_1, d.before a0 Z = true) (h0 : Heap) (n0 : Nat) (σ : Sg) (s : Addr) (cs : List Int32) (S : Str Z h0 s cs) (cz : Int32) (hcz : ¬ cz = 0) (O2 : Sta Z Z.heap "java/lang/String" "COMPACT_STRINGS" "Z" (.int cz)) :
    Con l Z y15 jdk_42_method_54_code 1 ((some .int)) ({ frames := 1, cells := 0, slots := 0, locals := 13 } : Room) [] #[(.ref s)] σ h0 n0 (fun v h τ => h0 = h ∧ σ = τ ∧ v = some (.int (Int32.ofNat cs.length))) := by
  refine Con.of_go pn15 (ls := #[.val (.ref s)]) (fun m => by first | (simp [entryFrame, mkF, argsToLocals, Value.category]; done) | rfl) ?_
  intro κ D
  obtain ⟨e1, e2, b, kb, e3, e4⟩ := id S.1
  refine Go.aloadN D (pc' := 1) d15_0 rfl rfl rfl ?_
  refine Go.getF D (pc' := 4) (hw _ (List.mem_of_getElem? (i := 32) rfl)) d15_1 rfl e3 ?_
  refine Go.alen D (pc' := 5) d15_4 rfl e4 ?_
  refine Go.aloadN D (pc' := 6) d15_5 rfl rfl rfl ?_
  refine Go.callV D (argsL := []) (rest := [(.int (Int32.ofNat cs.length))]) (pc' := 9) (ce' := 0) (sl' := 0) (con_scoder l Z a0 hw h0 n0 σ s e2 cz hcz O2) (hw _ (List.mem_of_getElem? (i := 94) rfl)) (hw _ (List.mem_of_getElem? (i := 95) rfl)) (hw _ (List.mem_of_getElem? (i := 97) rfl)) (hw _ (List.mem_of_getElem? (i := 96) rfl)) (hw _ (List.mem_of_getElem? (i := 2) rfl)) (hw _ (List.mem_of_getElem? (i := 98) rfl)) (nfS (hw _ (List.mem_of_getElem? (i := 97) rfl))) (by decide) e1 d15_6 rfl pd16 rfl rfl rfl (by decide) (W := 1) rfl (by decide) (by decide) (by decide) (by decide) (by decide) ?_
  intro v6 h6 σ6 q6
  obtain ⟨rfl, rfl, rfl⟩ := q6
  show Go κ σ h0 0 0 9 #[.val (.ref s)] [(.int (0 : Int32)), (.int (Int32.ofNat cs.length))]
  refine Go.ishr D (pc' := 10) d15_9 rfl  ?_
  rw [own_shr0]
  refine Go.iret D rfl d15_10 (by decide) (by decide) ?_
  exact ⟨rfl, rfl, rfl⟩

abbrev y34 : MethodName := ⟨"java/lang/String", "isLatin1", "()Z"⟩
theorem d34_0 : decode jdk_42_method_154_code 0 = .ok (.getstatic 38, 3) := by decide +kernel
theorem d34_3 : decode jdk_42_method_154_code 3 = .ok (.ifCond .eq 14, 3) := by decide +kernel
theorem d34_6 : decode jdk_42_method_154_code 6 = .ok (.aload_n 0, 1) := by decide +kernel
theorem d34_7 : decode jdk_42_method_154_code 7 = .ok (.getfield 15, 3) := by decide +kernel
theorem d34_10 : decode jdk_42_method_154_code 10 = .ok (.ifCond .ne 7, 3) := by decide +kernel
theorem d34_13 : decode jdk_42_method_154_code 13 = .ok (.iconst 1, 1) := by decide +kernel
theorem d34_14 : decode jdk_42_method_154_code 14 = .ok (.goto 4, 3) := by decide +kernel
theorem d34_17 : decode jdk_42_method_154_code 17 = .ok (.iconst 0, 1) := by decide +kernel
theorem d34_18 : decode jdk_42_method_154_code 18 = .ok (.ireturn, 1) := by decide +kernel
theorem pd34 : parseMethodDescriptor "()Z" = some ⟨[], (some .boolean)⟩ := by decide +kernel
theorem pn34 : plainFor y34 = true := by first | exact plainFor_of_name (by first | (simp [plainName, overriddenIn]; done) | decide +kernel) | decide +kernel | rfl
set_option maxRecDepth 65536 in
set_option maxHeartbeats 40000000 in
theorem con_sisl (l : Launch) (Z : State) (a0 : Array Value) (hw : ∀ d ∈ tables_1, d.before a0 Z = true) (h0 : Heap) (n0 : Nat) (σ : Sg) (s : Addr) (F : Fld Z h0 s "java/lang/String" "coder" "B" (.int 0)) (cz : Int32) (hcz : ¬ cz = 0) (O2 : Sta Z Z.heap "java/lang/String" "COMPACT_STRINGS" "Z" (.int cz)) :
    Con l Z y34 jdk_42_method_154_code 1 ((some .boolean)) ({ frames := 0, cells := 0, slots := 0, locals := 0 } : Room) [] #[(.ref s)] σ h0 n0 (fun v h τ => h0 = h ∧ σ = τ ∧ v = some (.int 1)) := by
  refine Con.of_go pn34 (ls := #[.val (.ref s)]) (fun m => by first | (simp [entryFrame, mkF, argsToLocals, Value.category]; done) | rfl) ?_
  intro κ D
  refine Go.getS D (pc' := 3) (hw _ (List.mem_of_getElem? (i := 18) rfl)) d34_0 rfl O2 ?_
  refine Go.ifc D (pc' := 17) (pc2 := 6) d34_3 (by decide) (by decide) rfl ?_ ?_
  · intro (hc3 : cz = 0)
    exact absurd hc3 hcz
  · intro (hc3 : ¬ cz = 0)
    refine Go.aloadN D (pc' := 7) d34_6 rfl rfl rfl ?_
    refine Go.getF D (pc' := 10) (hw _ (List.mem_of_getElem? (i := 30) rfl)) d34_7 rfl F ?_
    refine Go.ifc D (pc' := 17) (pc2 := 13) d34_10 (by decide) (by decide) rfl (fun (hc : ¬ (0 : Int32) = 0) => absurd hc (by decide)) (fun _ => ?_)
    refine Go.iconst D (pc' := 14) d34_13 rfl (v := (1 : Int32)) rfl ?_
    refine Go.goto D (pc' := 18) d34_14 (by decide) (by decide) ?_
    refine Go.zret D rfl rfl d34_18 (by decide) (by decide) ?_
    exact ⟨rfl, rfl, rfl⟩
abbrev y37 : MethodName := ⟨"jdk/internal/util/Preconditions", "checkIndex", "(IILjava/util/function/BiFunction;)I"⟩
theorem d37_0 : decode jdk_41_method_11_code 0 = .ok (.iload_n 0, 1) := by decide +kernel
theorem d37_1 : decode jdk_41_method_11_code 1 = .ok (.ifCond .lt 8, 3) := by decide +kernel
theorem d37_4 : decode jdk_41_method_11_code 4 = .ok (.iload_n 0, 1) := by decide +kernel
theorem d37_5 : decode jdk_41_method_11_code 5 = .ok (.iload_n 1, 1) := by decide +kernel
theorem d37_6 : decode jdk_41_method_11_code 6 = .ok (.if_icmp .lt 10, 3) := by decide +kernel
theorem d37_16 : decode jdk_41_method_11_code 16 = .ok (.iload_n 0, 1) := by decide +kernel
theorem d37_17 : decode jdk_41_method_11_code 17 = .ok (.ireturn, 1) := by decide +kernel
theorem pd37 : parseMethodDescriptor "(IILjava/util/function/BiFunction;)I" = some ⟨[.int, .int, (.object "java/util/function/BiFunction")], (some .int)⟩ := by decide +kernel
theorem pn37 : plainFor y37 = true := by first | exact plainFor_of_name (by first | (simp [plainName, overriddenIn]; done) | decide +kernel) | decide +kernel | rfl
set_option maxRecDepth 65536 in
set_option maxHeartbeats 40000000 in
theorem con_chkN (l : Launch) (Z : State) (a0 : Array Value) (hw : ∀ d ∈ tables_1, d.before a0 Z = true) (h0 : Heap) (n0 : Nat) (σ : Sg) (i n : Int32) (h1 : ¬ i < 0) (h2 : i < n) :
    Con l Z y37 jdk_41_method_11_code 3 ((some .int)) ({ frames := 0, cells := 0, slots := 0, locals := 0 } : Room) [] #[(.int i), (.int n), (.null)] σ h0 n0 (fun v h τ => h0 = h ∧ σ = τ ∧ v = some (.int i)) := by
  refine Con.of_go pn37 (ls := #[.val (.int i), .val (.int n), .val (.null)]) (fun m => by first | (simp [entryFrame, mkF, argsToLocals, Value.category]; done) | rfl) ?_
  intro κ D
  refine Go.iloadN D (pc' := 1) d37_0 rfl rfl ?_
  refine Go.ifc D (pc' := 9) (pc2 := 4) d37_1 (by decide) (by decide) rfl ?_ ?_
  · intro (hc1 : i < 0)
    exact absurd hc1 h1
  · intro (hc1 : ¬ i < 0)
    refine Go.iloadN D (pc' := 5) d37_4 rfl rfl ?_
    refine Go.iloadN D (pc' := 6) d37_5 rfl rfl ?_
    refine Go.icmp D (pc' := 16) (pc2 := 9) d37_6 (by decide) (by decide) rfl ?_ ?_
    · intro (hc6 : i < n)
      refine Go.iloadN D (pc' := 17) d37_16 rfl rfl ?_
      refine Go.iret D rfl d37_17 (by decide) (by decide) ?_
      exact ⟨rfl, rfl, rfl⟩
    · intro (hc6 : ¬ i < n)
      exact absurd h2 hc6
set_option maxRecDepth 65536 in
set_option maxHeartbeats 40000000 in
theorem con_chkR (l : Launch) (Z : State) (a0 : Array Value) (hw : ∀ d ∈ tables_1, d.before a0 Z = true) (h0 : Heap) (n0 : Nat) (σ : Sg) (i n : Int32) (h1 : ¬ i < 0) (h2 : i < n) (fa : Addr) :
    Con l Z y37 jdk_41_method_11_code 3 ((some .int)) ({ frames := 0, cells := 0, slots := 0, locals := 0 } : Room) [] #[(.int i), (.int n), (.ref fa)] σ h0 n0 (fun v h τ => h0 = h ∧ σ = τ ∧ v = some (.int i)) := by
  refine Con.of_go pn37 (ls := #[.val (.int i), .val (.int n), .val (.ref fa)]) (fun m => by first | (simp [entryFrame, mkF, argsToLocals, Value.category]; done) | rfl) ?_
  intro κ D
  refine Go.iloadN D (pc' := 1) d37_0 rfl rfl ?_
  refine Go.ifc D (pc' := 9) (pc2 := 4) d37_1 (by decide) (by decide) rfl ?_ ?_
  · intro (hc1 : i < 0)
    exact absurd hc1 h1
  · intro (hc1 : ¬ i < 0)
    refine Go.iloadN D (pc' := 5) d37_4 rfl rfl ?_
    refine Go.iloadN D (pc' := 6) d37_5 rfl rfl ?_
    refine Go.icmp D (pc' := 16) (pc2 := 9) d37_6 (by decide) (by decide) rfl ?_ ?_
    · intro (hc6 : i < n)
      refine Go.iloadN D (pc' := 17) d37_16 rfl rfl ?_
      refine Go.iret D rfl d37_17 (by decide) (by decide) ?_
      exact ⟨rfl, rfl, rfl⟩
    · intro (hc6 : ¬ i < n)
      exact absurd h2 hc6
abbrev y36 : MethodName := ⟨"java/lang/String", "checkIndex", "(II)V"⟩
theorem d36_0 : decode jdk_42_method_155_code 0 = .ok (.iload_n 0, 1) := by decide +kernel
theorem d36_1 : decode jdk_42_method_155_code 1 = .ok (.iload_n 1, 1) := by decide +kernel
theorem d36_2 : decode jdk_42_method_155_code 2 = .ok (.getstatic 1053, 3) := by decide +kernel
theorem d36_5 : decode jdk_42_method_155_code 5 = .ok (.invokestatic 1059, 3) := by decide +kernel
theorem d36_8 : decode jdk_42_method_155_code 8 = .ok (.pop, 1) := by decide +kernel
theorem d36_9 : decode jdk_42_method_155_code 9 = .ok (.return_, 1) := by decide +kernel
theorem pd36 : parseMethodDescriptor "(II)V" = some ⟨[.int, .int], none⟩ := by decide +kernel
theorem pn36 : plainFor y36 = true := by first | exact plainFor_of_name (by first | (simp [plainName, overriddenIn]; done) | decide +kernel) | decide +kernel | rfl
set_option maxRecDepth 65536 in
set_option maxHeartbeats 40000000 in
theorem con_sci (l : Launch) (Z : State) (a0 : Array Value) (hw : ∀ d ∈ tables_1, d.before a0 Z = true) (h0 : Heap) (n0 : Nat) (σ : Sg) (i n : Int32) (h1 : ¬ i < 0) (h2 : i < n) (fm : Value) (rf : fm.isRef = true) (O4 : Sta Z Z.heap "jdk/internal/util/Preconditions" "SIOOBE_FORMATTER" "Ljava/util/function/BiFunction;" fm) :
    Con l Z y36 jdk_42_method_155_code 2 none ({ frames := 1, cells := 0, slots := 0, locals := 14 } : Room) [] #[(.int i), (.int n)] σ h0 n0 (fun v h τ => h0 = h ∧ σ = τ ∧ v = none) := by
  refine Con.of_go pn36 (ls := #[.val (.int i), .val (.int n)]) (fun m => by first | (simp [entryFrame, mkF, argsToLocals, Value.category]; done) | rfl) ?_
  intro κ D
  rcases ref_cases rf with rfl | ⟨fa, rfl⟩
  · skip
    refine Go.iloadN D (pc' := 1) d36_0 rfl rfl ?_
    refine Go.iloadN D (pc' := 2) d36_1 rfl rfl ?_
    refine Go.getS D (pc' := 5) (hw _ (List.mem_of_getElem? (i := 194) rfl)) d36_2 rfl O4 ?_
    refine Go.callS D (argsL := [(.int i), (.int n), (.null)]) (rest := []) (pc' := 8) (ce' := 0) (sl' := 0) (con_chkN l Z a0 hw h0 n0 σ i n h1 h2) (hw _ (List.mem_of_getElem? (i := 196) rfl)) (hw _ (List.mem_of_getElem? (i := 197) rfl)) (hw _ (List.mem_of_getElem? (i := 195) rfl)) (hw _ (List.mem_of_getElem? (i := 198) rfl)) (by decide) d36_5 rfl pd37 rfl rfl rfl (by decide) (W := 0) rfl (by decide) (by decide) (by decide) (by decide) (by decide) ?_
    intro v5 h5 σ5 q5
    obtain ⟨rfl, rfl, rfl⟩ := q5
    show Go κ σ h0 0 0 8 #[.val (.int i), .val (.int n)] [(.int i)]
    refine Go.pop D (pc' := 9) d36_8 rfl rfl ?_
    refine Go.vret D rfl d36_9 (by decide) (by decide) ?_
    exact ⟨rfl, rfl, rfl⟩
  · skip
    refine Go.iloadN D (pc' := 1) d36_0 rfl rfl ?_
    refine Go.iloadN D (pc' := 2) d36_1 rfl rfl ?_
    refine Go.getS D (pc' := 5) (hw _ (List.mem_of_getElem? (i := 194) rfl)) d36_2 rfl O4 ?_
    refine Go.callS D (argsL := [(.int i), (.int n), (.ref fa)]) (rest := []) (pc' := 8) (ce' := 0) (sl' := 0) (con_chkR l Z a0 hw h0 n0 σ i n h1 h2 fa) (hw _ (List.mem_of_getElem? (i := 196) rfl)) (hw _ (List.mem_of_getElem? (i := 197) rfl)) (hw _ (List.mem_of_getElem? (i := 195) rfl)) (hw _ (List.mem_of_getElem? (i := 198) rfl)) (by decide) d36_5 rfl pd37 rfl rfl rfl (by decide) (W := 0) rfl (by decide) (by decide) (by decide) (by decide) (by decide) ?_
    intro v5 h5 σ5 q5
    obtain ⟨rfl, rfl, rfl⟩ := q5
    show Go κ σ h0 0 0 8 #[.val (.int i), .val (.int n)] [(.int i)]
    refine Go.pop D (pc' := 9) d36_8 rfl rfl ?_
    refine Go.vret D rfl d36_9 (by decide) (by decide) ?_
    exact ⟨rfl, rfl, rfl⟩
abbrev y35 : MethodName := ⟨"java/lang/StringLatin1", "charAt", "([BI)C"⟩
theorem d35_0 : decode jdk_43_method_2_code 0 = .ok (.iload_n 1, 1) := by decide +kernel
theorem d35_1 : decode jdk_43_method_2_code 1 = .ok (.aload_n 0, 1) := by decide +kernel
theorem d35_2 : decode jdk_43_method_2_code 2 = .ok (.arraylength, 1) := by decide +kernel
theorem d35_3 : decode jdk_43_method_2_code 3 = .ok (.invokestatic 9, 3) := by decide +kernel
theorem d35_6 : decode jdk_43_method_2_code 6 = .ok (.aload_n 0, 1) := by decide +kernel
theorem d35_7 : decode jdk_43_method_2_code 7 = .ok (.iload_n 1, 1) := by decide +kernel
theorem d35_8 : decode jdk_43_method_2_code 8 = .ok (.baload, 1) := by decide +kernel
theorem d35_9 : decode jdk_43_method_2_code 9 = .ok (.sipush 255, 3) := by decide +kernel
theorem d35_12 : decode jdk_43_method_2_code 12 = .ok (.iand, 1) := by decide +kernel
theorem d35_13 : decode jdk_43_method_2_code 13 = .ok (.i2c, 1) := by decide +kernel
theorem d35_14 : decode jdk_43_method_2_code 14 = .ok (.ireturn, 1) := by decide +kernel
theorem pd35 : parseMethodDescriptor "([BI)C" = some ⟨[(.array .byte), .int], (some .char)⟩ := by decide +kernel
theorem pn35 : plainFor y35 = true := by first | exact plainFor_of_name (by first | (simp [plainName, overriddenIn]; done) | decide +kernel) | decide +kernel | rfl
set_option maxRecDepth 65536 in
set_option maxHeartbeats 40000000 in
theorem con_lch (l : Launch) (Z : State) (a0 : Array Value) (hw : ∀ d ∈ tables_1, d.before a0 Z = true) (h0 : Heap) (n0 : Nat) (σ : Sg) (b : Addr) (kb : ClassId) (cs : List Int32) (B : Arv Z h0 b kb .byte (Int32.ofNat cs.length) (bv cs) (.int 0)) (hp : Lat cs) (i : Nat) (hi : i < cs.length) (fm : Value) (rf : fm.isRef = true) (O4 : Sta Z Z.heap "jdk/internal/util/Preconditions" "SIOOBE_FORMATTER" "Ljava/util/function/BiFunction;" fm) :
    Con l Z y35 jdk_43_method_2_code 2 ((some .char)) ({ frames := 2, cells := 0, slots := 0, locals := 28 } : Room) [] #[(.ref b), (.int (Int32.ofNat i))] σ h0 n0 (fun v h τ => h0 = h ∧ σ = τ ∧ v = some (.int cs[i])) := by
  refine Con.of_go pn35 (ls := #[.val (.ref b), .val (.int (Int32.ofNat i))]) (fun m => by first | (simp [entryFrame, mkF, argsToLocals, Value.category]; done) | rfl) ?_
  intro κ D
  have hl := hp.2
  refine Go.iloadN D (pc' := 1) d35_0 rfl rfl ?_
  refine Go.aloadN D (pc' := 2) d35_1 rfl rfl rfl ?_
  refine Go.alen D (pc' := 3) d35_2 rfl B ?_
  refine Go.callS D (argsL := [(.int (Int32.ofNat i)), (.int (Int32.ofNat cs.length))]) (rest := []) (pc' := 6) (ce' := 0) (sl' := 0) (con_sci l Z a0 hw h0 n0 σ (Int32.ofNat i) (Int32.ofNat cs.length) (own_nn (by omega)) ((own_lt (by omega) (by omega)).mpr hi) fm rf O4) (hw _ (List.mem_of_getElem? (i := 191) rfl)) (hw _ (List.mem_of_getElem? (i := 192) rfl)) (hw _ (List.mem_of_getElem? (i := 2) rfl)) (hw _ (List.mem_of_getElem? (i := 193) rfl)) (by decide) d35_3 rfl pd36 rfl rfl rfl (by decide) (W := 0) rfl (by decide) (by decide) (by decide) (by decide) (by decide) ?_
  intro v3 h3 σ3 q3
  obtain ⟨rfl, rfl, rfl⟩ := q3
  show Go κ σ h0 0 0 6 #[.val (.ref b), .val (.int (Int32.ofNat i))] []
  refine Go.aloadN D (pc' := 7) d35_6 rfl rfl rfl ?_
  refine Go.iloadN D (pc' := 8) d35_7 rfl rfl ?_
  refine Go.baload D (pc' := 9) d35_8 rfl B (own_nn (by omega)) ((own_lt (by omega) (by omega)).mpr hi) (v := .int (cs[i].toInt8.toInt32)) (by rw [own_tn (by omega)]; exact bv_at hi _) ?_
  refine Go.sipush D (pc' := 12) d35_9 rfl (v := (255 : Int32)) rfl ?_
  refine Go.iand D (pc' := 13) d35_12 rfl  ?_
  refine Go.i2c D (pc' := 14) d35_13 rfl  ?_
  rw [i2c_mask, byte_back (hp.1 _ (List.getElem_mem hi))]
  refine Go.cret D rfl (congrArg Value.int (char_nar (hp.1 _ (List.getElem_mem hi)))) d35_14 (by decide) (by decide) ?_
  exact ⟨rfl, rfl, rfl⟩
abbrev y33 : MethodName := ⟨"java/lang/String", "charAt", "(I)C"⟩
theorem d33_0 : decode jdk_42_method_56_code 0 = .ok (.aload_n 0, 1) := by decide +kernel
theorem d33_1 : decode jdk_42_method_56_code 1 = .ok (.invokevirtual 492, 3) := by decide +kernel
theorem d33_4 : decode jdk_42_method_56_code 4 = .ok (.ifCond .eq 12, 3) := by decide +kernel
theorem d33_7 : decode jdk_42_method_56_code 7 = .ok (.aload_n 0, 1) := by decide +kernel
theorem d33_8 : decode jdk_42_method_56_code 8 = .ok (.getfield 9, 3) := by decide +kernel
theorem d33_11 : decode jdk_42_method_56_code 11 = .ok (.iload_n 1, 1) := by decide +kernel
theorem d33_12 : decode jdk_42_method_56_code 12 = .ok (.invokestatic 495, 3) := by decide +kernel
theorem d33_15 : decode jdk_42_method_56_code 15 = .ok (.ireturn, 1) := by decide +kernel
theorem pd33 : parseMethodDescriptor "(I)C" = some ⟨[.int], (some .char)⟩ := by decide +kernel
theorem pn33 : plainFor y33 = true := by first | exact plainFor_of_name (by first | (simp [plainName, overriddenIn]; done) | decide +kernel) | decide +kernel | rfl
set_option maxRecDepth 65536 in
set_option maxHeartbeats 40000000 in
theorem con_chAt (l : Launch) (Z : State) (a0 : Array Value) (hw : ∀ d ∈ tables_1, d.before a0 Z = true) (h0 : Heap) (n0 : Nat) (σ : Sg) (s : Addr) (cs : List Int32) (S : Str Z h0 s cs) (i : Nat) (hi : i < cs.length) (cz : Int32) (hcz : ¬ cz = 0) (O2 : Sta Z Z.heap "java/lang/String" "COMPACT_STRINGS" "Z" (.int cz)) (fm : Value) (rf : fm.isRef = true) (O4 : Sta Z Z.heap "jdk/internal/util/Preconditions" "SIOOBE_FORMATTER" "Ljava/util/function/BiFunction;" fm) :
    Con l Z y33 jdk_42_method_56_code 2 ((some .char)) ({ frames := 3, cells := 0, slots := 0, locals := 42 } : Room) [] #[(.ref s), (.int (Int32.ofNat i))] σ h0 n0 (fun v h τ => h0 = h ∧ σ = τ ∧ v = some (.int cs[i])) := by
  refine Con.of_go pn33 (ls := #[.val (.ref s), .val (.int (Int32.ofNat i))]) (fun m => by first | (simp [entryFrame, mkF, argsToLocals, Value.category]; done) | rfl) ?_
  intro κ D
  obtain ⟨e1, e2, b, kb, e3, e4⟩ := id S.1
  refine Go.aloadN D (pc' := 1) d33_0 rfl rfl rfl ?_
  refine Go.callV D (argsL := []) (rest := []) (pc' := 4) (ce' := 0) (sl' := 0) (con_sisl l Z a0 hw h0 n0 σ s e2 cz hcz O2) (hw _ (List.mem_of_getElem? (i := 182) rfl)) (hw _ (List.mem_of_getElem? (i := 183) rfl)) (hw _ (List.mem_of_getElem? (i := 185) rfl)) (hw _ (List.mem_of_getElem? (i := 184) rfl)) (hw _ (List.mem_of_getElem? (i := 2) rfl)) (hw _ (List.mem_of_getElem? (i := 186) rfl)) (nfS (hw _ (List.mem_of_getElem? (i := 185) rfl))) (by decide) e1 d33_1 rfl pd34 rfl rfl rfl (by decide) (W := 0) rfl (by decide) (by decide) (by decide) (by decide) (by decide) ?_
  intro v1 h1 σ1 q1
  obtain ⟨rfl, rfl, rfl⟩ := q1
  show Go κ σ h0 0 0 4 #[.val (.ref s), .val (.int (Int32.ofNat i))] [(.int (1 : Int32))]
  refine Go.ifc D (pc' := 16) (pc2 := 7) d33_4 (by decide) (by decide) rfl (fun (hc : (1 : Int32) = 0) => absurd hc (by decide)) (fun _ => ?_)
  refine Go.aloadN D (pc' := 8) d33_7 rfl rfl rfl ?_
  refine Go.getF D (pc' := 11) (hw _ (List.mem_of_getElem? (i := 32) rfl)) d33_8 rfl e3 ?_
  refine Go.iloadN D (pc' := 12) d33_11 rfl rfl ?_
  refine Go.callS D (argsL := [(.ref b), (.int (Int32.ofNat i))]) (rest := []) (pc' := 15) (ce' := 0) (sl' := 0) (con_lch l Z a0 hw h0 n0 σ b kb cs e4 S.2 i hi fm rf O4) (hw _ (List.mem_of_getElem? (i := 187) rfl)) (hw _ (List.mem_of_getElem? (i := 188) rfl)) (hw _ (List.mem_of_getElem? (i := 189) rfl)) (hw _ (List.mem_of_getElem? (i := 190) rfl)) (by decide) d33_12 rfl pd35 rfl rfl rfl (by decide) (W := 0) rfl (by decide) (by decide) (by decide) (by decide) (by decide) ?_
  intro v12 h12 σ12 q12
  obtain ⟨rfl, rfl, rfl⟩ := q12
  show Go κ σ h0 0 0 15 #[.val (.ref s), .val (.int (Int32.ofNat i))] [(.int cs[i])]
  refine Go.cret D rfl (congrArg Value.int (char_nar (S.2.1 _ (List.getElem_mem hi)))) d33_15 (by decide) (by decide) ?_
  exact ⟨rfl, rfl, rfl⟩
theorem own_add (a b : Nat) : Int32.ofNat a + Int32.ofNat b = Int32.ofNat (a + b) := (Int32.ofNat_add a b).symm
theorem ens_tab : ∀ i : Fin 17, ¬ (0 : Int32) < Int32.ofNat i.1 - 16 := by decide
theorem ens_no {m : Nat} (h : m ≤ 16) : ¬ (0 : Int32) < Int32.ofNat m - 16 := ens_tab ⟨m, by omega⟩
theorem own_shl0 (x : Int32) : x <<< ((0 : Int32) &&& 31) = x := by
  have : ((0 : Int32) &&& 31) = 0 := by decide
  rw [this]; simp
theorem getD_rng {vs : List Value} {n : Nat} (h : n ≤ vs.length) (d : Value) : ((List.range n).map fun i => vs.getD (0 + i) d) = vs.take n := by
  apply List.ext_getElem (by simp <;> omega)
  intro i h1 h2
  simp at h1 h2
  simp [List.getD, show i < vs.length by omega]
theorem sb_cat {ts cs : List Int32} (h : ts.length + cs.length ≤ 16) : (bv ts ++ List.replicate (16 - ts.length) (Value.int 0)).take ts.length ++ ((List.range cs.length).map fun i => (bv cs).getD (0 + i) (Value.int 0)) ++ (bv ts ++ List.replicate (16 - ts.length) (Value.int 0)).drop (ts.length + cs.length) = bv (ts ++ cs) ++ List.replicate (16 - (ts ++ cs).length) (Value.int 0) := by
  rw [getD_rng (by rw [bv_len]; exact Nat.le_refl _), List.take_of_length_le (l := bv cs) (by rw [bv_len]; exact Nat.le_refl _), List.take_left' (bv_len ts), List.drop_append, List.drop_of_length_le (by rw [bv_len]; omega), bv_len]
  simp [bv]
  omega
theorem cp_cat {vs : List Value} {n : Nat} (h : n ≤ vs.length) : (List.replicate n (Value.int 0)).take 0 ++ ((List.range n).map fun i => vs.getD (0 + i) (Value.int 0)) ++ (List.replicate n (Value.int 0)).drop (0 + n) = vs.take n := by
  rw [getD_rng h]; simp
theorem take_ts (ts : List Int32) (n : Nat) : (bv ts ++ List.replicate n (Value.int 0)).take ts.length = bv ts := List.take_left' (bv_len ts)
theorem ofNat_ne16 {n : Nat} (h : n < 16) : Int32.ofNat n ≠ 16 := fun e => by
  have := congrArg Int32.toInt e
  rw [own_ti (by omega), show (16 : Int32).toInt = 16 from rfl] at this
  omega
def resV (x y : List Int32) : List Int32 := (((([] ++ [40]) ++ x) ++ [44, 32]) ++ y) ++ [41]
def scV (n a b : Int32) : List Int32 := if n = 0 then [] else if n = 1 then [a] else [a, b]
def expV (i ls lg a b c d : Int32) : Int32 := if i = 0 then 40 else if ls < i then (if i = ls + 1 then 44 else if i = ls + 2 then 32 else if ls + 2 + lg < i then (if i = ls + lg + 3 then 41 else -1) else if i = ls + 3 then c else d) else if i = 1 then a else b
theorem res_len {ls lg a b c d : Int32} (h : ls = 0 ∨ ls = 1 ∨ ls = 2) (h' : lg = 0 ∨ lg = 1 ∨ lg = 2) : Int32.ofNat (resV (scV ls a b) (scV lg c d)).length = 4 + ls + lg := by
  rcases h with rfl | rfl | rfl <;> rcases h' with rfl | rfl | rfl <;> rfl
theorem own_resAt {ls lg a b c d : Int32} (h : ls = 0 ∨ ls = 1 ∨ ls = 2) (h' : lg = 0 ∨ lg = 1 ∨ lg = 2) (i : Nat) (hi : i < 8) : (resV (scV ls a b) (scV lg c d)).getD i (-1) = expV (Int32.ofNat i) ls lg a b c d := by
  have : i = 0 ∨ i = 1 ∨ i = 2 ∨ i = 3 ∨ i = 4 ∨ i = 5 ∨ i = 6 ∨ i = 7 := by omega
  rcases h with rfl | rfl | rfl <;> rcases h' with rfl | rfl | rfl <;> rcases this with rfl | rfl | rfl | rfl | rfl | rfl | rfl | rfl <;> rfl
theorem getD_in {cs : List Int32} {i : Nat} (h : i < cs.length) (d : Int32) : cs.getD i d = cs[i] := by simp [List.getD, h]
theorem getD_out {cs : List Int32} {i : Nat} (h : ¬ i < cs.length) (d : Int32) : cs.getD i d = d := by simp [List.getD, Nat.not_lt.mp h]
theorem sc_len {n a b : Int32} : (scV n a b).length ≤ 2 := by
  unfold scV
  split
  · simp
  · split <;> simp
theorem sc_lat {n a b : Int32} (ha : ¬ a < 0 ∧ a < 256) (hb : ¬ b < 0 ∧ b < 256) : Lat (scV n a b) := by
  refine ⟨?_, by have := sc_len (n := n) (a := a) (b := b); omega⟩
  intro c hc
  unfold scV at hc
  split at hc
  · simp at hc
  · split at hc
    · simp at hc; subst hc; exact ha
    · simp at hc; rcases hc with rfl | rfl <;> assumption
theorem mask_lat (x : Int32) : ¬ (x &&& 255) < 0 ∧ (x &&& 255) < 256 := by
  have h := c_and x 255 (by decide)
  simp only [Int32.lt_iff_toInt_lt, show (0 : Int32).toInt = 0 from rfl, show (255 : Int32).toInt = 255 from rfl, show (256 : Int32).toInt = 256 from rfl] at h ⊢
  omega
theorem len_cases (x : Int32) : (x &&& 3) % 3 = 0 ∨ (x &&& 3) % 3 = 1 ∨ (x &&& 3) % 3 = 2 := by
  have h := c_and x 3 (by decide)
  have r := (c_irem (x &&& 3) 3 3 rfl).1 h.1
  have e : (3 : Int32).toInt = 3 := rfl
  simp only [← Int32.toInt_inj, show (0 : Int32).toInt = 0 from rfl, show (1 : Int32).toInt = 1 from rfl, show (2 : Int32).toInt = 2 from rfl]
  omega
theorem Lat.app {a b : List Int32} (h1 : Lat a) (h2 : Lat b) (h : a.length + b.length ≤ 64) : Lat (a ++ b) := ⟨fun c hc => (List.mem_append.mp hc).elim (h1.1 c) (h2.1 c), by rw [List.length_append]; exact h⟩

def PB (Z : State) (h : Heap) (t : Addr) (v1 v2 : Value) : Prop := Exa Z h t "com/example/per_group_sequences/pergroupsequences/CounterId" ∧ Fld Z h t "com/example/per_group_sequences/pergroupsequences/CounterId" "sequenceName" "Ljava/lang/String;" v1 ∧ Fld Z h t "com/example/per_group_sequences/pergroupsequences/CounterId" "groupKey" "Ljava/lang/String;" v2
theorem PB.ext {Z : State} {h h' : Heap} {t : Addr} {v1 v2 : Value} (F : PB Z h t v1 v2) (E : Ext h h') : PB Z h' t v1 v2 := ⟨F.1.ext E, F.2.1.ext E, F.2.2.ext E⟩
theorem PB.set1 {Z : State} {a0 : Array Value} (hw : ∀ d ∈ tables_1, d.before a0 Z = true) {h h' : Heap} {t : Addr} {v1 v2 v : Value} (F : PB Z h t v1 v2) (W : Wr h h' t (Jvm.RoadKit.slotOf Z "com/example/per_group_sequences/pergroupsequences/CounterId" "sequenceName" "Ljava/lang/String;") v) : PB Z h' t v v2 := ⟨F.1.wr W, F.2.1.same W, F.2.2.other W (Or.inr (slot_ne (Or.inr (hw _ (List.mem_of_getElem? (i := 54) rfl))) (Or.inr (hw _ (List.mem_of_getElem? (i := 51) rfl))) (by decide) (t := .object "java/lang/String") (t' := .object "java/lang/String") (by decide) (by decide)))⟩
theorem PB.set2 {Z : State} {a0 : Array Value} (hw : ∀ d ∈ tables_1, d.before a0 Z = true) {h h' : Heap} {t : Addr} {v1 v2 v : Value} (F : PB Z h t v1 v2) (W : Wr h h' t (Jvm.RoadKit.slotOf Z "com/example/per_group_sequences/pergroupsequences/CounterId" "groupKey" "Ljava/lang/String;") v) : PB Z h' t v1 v := ⟨F.1.wr W, F.2.1.other W (Or.inr (slot_ne (Or.inr (hw _ (List.mem_of_getElem? (i := 51) rfl))) (Or.inr (hw _ (List.mem_of_getElem? (i := 54) rfl))) (by decide) (t := .object "java/lang/String") (t' := .object "java/lang/String") (by decide) (by decide))), F.2.2.same W⟩
theorem nlit {Z : State} {h : Heap} {t : Addr} {L : List (String × Nat × String × Addr)} (E : Exa Z h t "com/example/per_group_sequences/pergroupsequences/CounterId") (K : CsOk CS Z h L) : ∀ q ∈ L, q.2.2.2 ≠ t := fun q hq => Exa.ne (K q hq).2.1 E (by decide)

def SB (Z : State) (h : Heap) (b vb : Addr) (kb : ClassId) (ts : List Int32) : Prop := Exa Z h b "java/lang/StringBuilder" ∧ Fld Z h b "java/lang/AbstractStringBuilder" "value" "[B" (.ref vb) ∧ Fld Z h b "java/lang/AbstractStringBuilder" "coder" "B" (.int 0) ∧ Fld Z h b "java/lang/AbstractStringBuilder" "count" "I" (.int (Int32.ofNat ts.length)) ∧ Arv Z h vb kb .byte (16 : Int32) (bv ts ++ List.replicate (16 - ts.length) (.int 0)) (.int 0)
theorem SB.ext {Z : State} {h h' : Heap} {b vb : Addr} {kb : ClassId} {ts : List Int32} (S : SB Z h b vb kb ts) (E : Ext h h') : SB Z h' b vb kb ts := ⟨S.1.ext E, S.2.1.ext E, S.2.2.1.ext E, S.2.2.2.1.ext E, S.2.2.2.2.ext E⟩
theorem nin2 {x y z : Addr} (q1 : x ≠ y) (q2 : x ≠ z) : x ∉ [y, z] := fun h => by
  simp only [List.mem_cons, List.not_mem_nil, or_false] at h
  exact h.elim q1 q2
theorem Arv.ne_len {Z : State} {h : Heap} {a b : Addr} {k k' : ClassId} {ty ty' : FieldType} {n n' : Int32} {vs ws : List Value} {d d' : Value} (A : Arv Z h a k ty n vs d) (B : Arv Z h b k' ty' n' ws d') (q : n ≠ n') : a ≠ b := fun e => by
  subst e
  obtain ⟨c, A1, -, A3, A4, -⟩ := A
  obtain ⟨c', B1, -, B3, B4, -⟩ := B
  cases A1.1.symm.trans B1.1
  have e := A3.symm.trans B3
  apply q
  apply Int32.toInt_inj.mp
  simp only [Int32.toNatClampNeg] at e
  simp only [Int32.lt_iff_toInt_lt, show (0 : Int32).toInt = 0 from rfl] at A4 B4
  omega
theorem SC.keep2 {Z : State} {a0 : Array Value} {h h' : Heap} {a b vb : Addr} {kb : ClassId} {z : Int32} {vs ws : List Value} {n m : Nat} (S : SC Z h a z vs) (K : Keep h h' [b, vb]) (E : Exa Z h b "java/lang/StringBuilder") (V : Arv Z h vb kb .byte (16 : Int32) ws (.int 0)) (w1 : (Jvm.Cond.instantiable "java/lang/StringBuilder" n).before a0 Z = true) (w2 : (Jvm.Cond.instantiable "java/lang/String" m).before a0 Z = true) (hz : z ≠ 16) : SC Z h' a z vs := by
  obtain ⟨f1, f2, c, k, f3, f4⟩ := S
  have n1 : a ∉ [b, vb] := nin2 (Exa.ne f1 E (by decide)) (Exa.neArv f1 V w2)
  exact ⟨f1.keep K, f2.keep K n1, c, k, f3.keep K n1, f4.keep K (nin2 (Ne.symm (Exa.neArv E f4 w1)) (Arv.ne_len f4 V hz))⟩
theorem cs16 : ∀ c ∈ CS, Int32.ofNat (tb c.2.2).length ≠ 16 := by decide
theorem Str.keep2 {Z : State} {a0 : Array Value} (hw : ∀ d ∈ tables_1, d.before a0 Z = true) {h h' : Heap} {a b vb : Addr} {kb : ClassId} {cs ts : List Int32} (S : Str Z h a cs) (K : Keep h h' [b, vb]) (B : SB Z h b vb kb ts) (hl : cs.length < 16) : Str Z h' a cs := ⟨SC.keep2 S.1 K B.1 B.2.2.2.2 (hw _ (List.mem_of_getElem? (i := 61) rfl)) (hw _ (List.mem_of_getElem? (i := 1) rfl)) (ofNat_ne16 hl), S.2⟩
theorem CsOk.keep2 {Z : State} {a0 : Array Value} (hw : ∀ d ∈ tables_1, d.before a0 Z = true) {h h' : Heap} {L : List (String × Nat × String × Addr)} {b vb : Addr} {kb : ClassId} {ts : List Int32} (S : CsOk CS Z h L) (K : Keep h h' [b, vb]) (B : SB Z h b vb kb ts) : CsOk CS Z h' L := fun q hq => ⟨(S q hq).1, SC.keep2 (S q hq).2 K B.1 B.2.2.2.2 (hw _ (List.mem_of_getElem? (i := 61) rfl)) (hw _ (List.mem_of_getElem? (i := 1) rfl)) (cs16 _ (S q hq).1)⟩
theorem PB.keep2 {Z : State} {a0 : Array Value} (hw : ∀ d ∈ tables_1, d.before a0 Z = true) {h h' : Heap} {t b vb : Addr} {kb : ClassId} {ts : List Int32} {v1 v2 : Value} (F : PB Z h t v1 v2) (K : Keep h h' [b, vb]) (B : SB Z h b vb kb ts) : PB Z h' t v1 v2 := by
  have n1 : t ∉ [b, vb] := nin2 (Exa.ne F.1 B.1 (by decide)) (Exa.neArv F.1 B.2.2.2.2 (hw _ (List.mem_of_getElem? (i := 38) rfl)))
  exact ⟨F.1.keep K, F.2.1.keep K n1, F.2.2.keep K n1⟩
theorem CsOk.keep1 {Z : State} {a0 : Array Value} {h h' : Heap} {L : List (String × Nat × String × Addr)} {s : Addr} {C : String} {n : Nat} (S : CsOk CS Z h L) (K : Keep h h' [s]) (hq : ∀ q ∈ L, q.2.2.2 ≠ s) (E : Exa Z h s C) (wi : (Jvm.Cond.instantiable C n).before a0 Z = true) : CsOk CS Z h' L := fun q hm => ⟨(S q hm).1, by
  obtain ⟨f1, f2, c, k, f3, f4⟩ := (S q hm).2
  have n1 := nin1 (hq q hm)
  exact ⟨f1.keep K, f2.keep K n1, c, k, f3.keep K n1, f4.keep K (nin1 (Ne.symm (Exa.neArv E f4 wi)))⟩⟩

abbrev y1 : MethodName := ⟨"com/example/per_group_sequences/pergroupsequences/CounterIdToStringPinLaw", "mk", "(III)[C"⟩
theorem d1_0 : decode method_2_code 0 = .ok (.iload_n 0, 1) := by decide +kernel
theorem d1_1 : decode method_2_code 1 = .ok (.ifCond .ne 7, 3) := by decide +kernel
theorem d1_4 : decode method_2_code 4 = .ok (.iconst 0, 1) := by decide +kernel
theorem d1_5 : decode method_2_code 5 = .ok (.newarray .char, 2) := by decide +kernel
theorem d1_7 : decode method_2_code 7 = .ok (.areturn, 1) := by decide +kernel
theorem d1_8 : decode method_2_code 8 = .ok (.iload_n 0, 1) := by decide +kernel
theorem d1_9 : decode method_2_code 9 = .ok (.iconst 1, 1) := by decide +kernel
theorem d1_10 : decode method_2_code 10 = .ok (.if_icmp .ne 14, 3) := by decide +kernel
theorem d1_13 : decode method_2_code 13 = .ok (.iconst 1, 1) := by decide +kernel
theorem d1_14 : decode method_2_code 14 = .ok (.newarray .char, 2) := by decide +kernel
theorem d1_16 : decode method_2_code 16 = .ok (.astore_n 3, 1) := by decide +kernel
theorem d1_17 : decode method_2_code 17 = .ok (.aload_n 3, 1) := by decide +kernel
theorem d1_18 : decode method_2_code 18 = .ok (.iconst 0, 1) := by decide +kernel
theorem d1_19 : decode method_2_code 19 = .ok (.iload_n 1, 1) := by decide +kernel
theorem d1_20 : decode method_2_code 20 = .ok (.i2c, 1) := by decide +kernel
theorem d1_21 : decode method_2_code 21 = .ok (.castore, 1) := by decide +kernel
theorem d1_22 : decode method_2_code 22 = .ok (.aload_n 3, 1) := by decide +kernel
theorem d1_23 : decode method_2_code 23 = .ok (.areturn, 1) := by decide +kernel
theorem d1_24 : decode method_2_code 24 = .ok (.iconst 2, 1) := by decide +kernel
theorem d1_25 : decode method_2_code 25 = .ok (.newarray .char, 2) := by decide +kernel
theorem d1_27 : decode method_2_code 27 = .ok (.astore_n 3, 1) := by decide +kernel
theorem d1_28 : decode method_2_code 28 = .ok (.aload_n 3, 1) := by decide +kernel
theorem d1_29 : decode method_2_code 29 = .ok (.iconst 0, 1) := by decide +kernel
theorem d1_30 : decode method_2_code 30 = .ok (.iload_n 1, 1) := by decide +kernel
theorem d1_31 : decode method_2_code 31 = .ok (.i2c, 1) := by decide +kernel
theorem d1_32 : decode method_2_code 32 = .ok (.castore, 1) := by decide +kernel
theorem d1_33 : decode method_2_code 33 = .ok (.aload_n 3, 1) := by decide +kernel
theorem d1_34 : decode method_2_code 34 = .ok (.iconst 1, 1) := by decide +kernel
theorem d1_35 : decode method_2_code 35 = .ok (.iload_n 2, 1) := by decide +kernel
theorem d1_36 : decode method_2_code 36 = .ok (.i2c, 1) := by decide +kernel
theorem d1_37 : decode method_2_code 37 = .ok (.castore, 1) := by decide +kernel
theorem d1_38 : decode method_2_code 38 = .ok (.aload_n 3, 1) := by decide +kernel
theorem d1_39 : decode method_2_code 39 = .ok (.areturn, 1) := by decide +kernel
theorem pd1 : parseMethodDescriptor "(III)[C" = some ⟨[.int, .int, .int], (some (.array .char))⟩ := by decide +kernel
theorem pn1 : plainFor y1 = true := by first | exact plainFor_of_name (by first | (simp [plainName, overriddenIn]; done) | decide +kernel) | decide +kernel | rfl
set_option maxRecDepth 65536 in
set_option maxHeartbeats 40000000 in
theorem con_mk (l : Launch) (Z : State) (a0 : Array Value) (hw : ∀ d ∈ tables_1, d.before a0 Z = true) (h0 : Heap) (n0 : Nat) (Z0 : n0 ≤ h0.size) (σ : Sg) (n p q : Int32) (hp : ¬ p < 0 ∧ p < 256) (hq : ¬ q < 0 ∧ q < 256) :
    Con l Z y1 method_2_code 4 ((some (.array .char))) ({ frames := 0, cells := 1, slots := 2, locals := 0 } : Room) [] #[(.int n), (.int p), (.int q)] σ h0 n0 (fun v h τ => σ = τ ∧ ∃ a k, v = some (.ref a) ∧ h0.size ≤ a ∧ Ext h0 h ∧ Arv Z h a k .char (Int32.ofNat (scV n p q).length) ((scV n p q).map Value.int) (.int 0)) := by
  refine Con.of_go pn1 (ls := #[.val (.int n), .val (.int p), .val (.int q), .unset]) (fun m => by first | (simp [entryFrame, mkF, argsToLocals, Value.category]; done) | rfl) ?_
  intro κ D
  refine Go.iloadN D (pc' := 1) d1_0 rfl rfl ?_
  refine Go.ifc D (pc' := 8) (pc2 := 4) d1_1 (by decide) (by decide) rfl ?_ ?_
  · intro (hc1 : ¬ n = 0)
    refine Go.iloadN D (pc' := 9) d1_8 rfl rfl ?_
    refine Go.iconst D (pc' := 10) d1_9 rfl (v := (1 : Int32)) rfl ?_
    refine Go.icmp D (pc' := 24) (pc2 := 13) d1_10 (by decide) (by decide) rfl ?_ ?_
    · intro (hc10 : ¬ n = (1 : Int32))
      refine Go.iconst D (pc' := 25) d1_24 rfl (v := (2 : Int32)) rfl ?_
      refine Go.newP D (pc' := 27) (aty := .char) (cap := 2) (ce' := 1) (sl' := 2) (hw _ (List.mem_of_getElem? (i := 7) rfl)) d1_25 rfl (by decide) (by decide) (by decide) rfl rfl (by decide) (by decide) ?_
      intro h1 a k ga E1 A1
      refine Go.astoreN D (pc' := 28) d1_27 rfl rfl (ls' := #[.val (.int n), .val (.int p), .val (.int q), .val (.ref a)]) rfl ?_
      refine Go.aloadN D (pc' := 29) d1_28 rfl rfl rfl ?_
      refine Go.iconst D (pc' := 30) d1_29 rfl (v := (0 : Int32)) rfl ?_
      refine Go.iloadN D (pc' := 31) d1_30 rfl rfl ?_
      refine Go.i2c D (pc' := 32) d1_31 rfl  ?_
      rw [char_nar hp]
      refine Go.castore D (pc' := 33) (i := 0) d1_32 rfl (A1.pad (vs' := [.int 0, .int 0]) (fun i => pad_rep [] (.int 0) 2 i)) (by decide) (by decide) rfl (by simp) (by omega) (char_nar hp) ?_
      intro h2 K2 A2
      refine Go.aloadN D (pc' := 34) d1_33 rfl rfl rfl ?_
      refine Go.iconst D (pc' := 35) d1_34 rfl (v := (1 : Int32)) rfl ?_
      refine Go.iloadN D (pc' := 36) d1_35 rfl rfl ?_
      refine Go.i2c D (pc' := 37) d1_36 rfl  ?_
      rw [char_nar hq]
      refine Go.castore D (pc' := 38) (i := 1) d1_37 rfl A2 (by decide) (by decide) rfl (by simp) (by omega) (char_nar hq) ?_
      intro h3 K3 A3
      refine Go.aloadN D (pc' := 39) d1_38 rfl rfl rfl ?_
      refine Go.aret D rfl rfl rfl d1_39 (by decide) (by decide) ?_
      exact ⟨rfl, a, k, rfl, by omega, (E1.keepN K2 (by omega)).keepN K3 (by omega), by rw [show scV n p q = [p, q] from by unfold scV; rw [if_neg hc1, if_neg hc10]]; exact A3⟩
    · intro (hc10 : n = (1 : Int32))
      refine Go.iconst D (pc' := 14) d1_13 rfl (v := (1 : Int32)) rfl ?_
      refine Go.newP D (pc' := 16) (aty := .char) (cap := 2) (ce' := 1) (sl' := 2) (hw _ (List.mem_of_getElem? (i := 7) rfl)) d1_14 rfl (by decide) (by decide) (by decide) rfl rfl (by decide) (by decide) ?_
      intro h1 a k ga E1 A1
      refine Go.astoreN D (pc' := 17) d1_16 rfl rfl (ls' := #[.val (.int n), .val (.int p), .val (.int q), .val (.ref a)]) rfl ?_
      refine Go.aloadN D (pc' := 18) d1_17 rfl rfl rfl ?_
      refine Go.iconst D (pc' := 19) d1_18 rfl (v := (0 : Int32)) rfl ?_
      refine Go.iloadN D (pc' := 20) d1_19 rfl rfl ?_
      refine Go.i2c D (pc' := 21) d1_20 rfl  ?_
      rw [char_nar hp]
      refine Go.castore D (pc' := 22) (i := 0) d1_21 rfl (A1.pad (vs' := [.int 0]) (fun i => pad_rep [] (.int 0) 1 i)) (by decide) (by decide) rfl (by simp) (by omega) (char_nar hp) ?_
      intro h2 K2 A2
      refine Go.aloadN D (pc' := 23) d1_22 rfl rfl rfl ?_
      refine Go.aret D rfl rfl rfl d1_23 (by decide) (by decide) ?_
      exact ⟨rfl, a, k, rfl, by omega, E1.keepN K2 (by omega), by rw [show scV n p q = [p] from by unfold scV; rw [if_neg hc1, if_pos hc10]]; exact A2⟩
  · intro (hc1 : n = 0)
    refine Go.iconst D (pc' := 5) d1_4 rfl (v := (0 : Int32)) rfl ?_
    refine Go.newP D (pc' := 7) (aty := .char) (cap := 2) (ce' := 1) (sl' := 2) (hw _ (List.mem_of_getElem? (i := 7) rfl)) d1_5 rfl (by decide) (by decide) (by decide) rfl rfl (by decide) (by decide) ?_
    intro h1 a k ga E1 A1
    refine Go.aret D rfl rfl rfl d1_7 (by decide) (by decide) ?_
    exact ⟨rfl, a, k, rfl, by omega, E1, by rw [show scV n p q = [] from if_pos hc1]; exact A1⟩
abbrev y2 : MethodName := ⟨"java/lang/String", "<init>", "([C)V"⟩
theorem d2_0 : decode jdk_42_method_3_code 0 = .ok (.aload_n 0, 1) := by decide +kernel
theorem d2_1 : decode jdk_42_method_3_code 1 = .ok (.aload_n 1, 1) := by decide +kernel
theorem d2_2 : decode jdk_42_method_3_code 2 = .ok (.iconst 0, 1) := by decide +kernel
theorem d2_3 : decode jdk_42_method_3_code 3 = .ok (.aload_n 1, 1) := by decide +kernel
theorem d2_4 : decode jdk_42_method_3_code 4 = .ok (.arraylength, 1) := by decide +kernel
theorem d2_5 : decode jdk_42_method_3_code 5 = .ok (.aconst_null, 1) := by decide +kernel
theorem d2_6 : decode jdk_42_method_3_code 6 = .ok (.invokespecial 27, 3) := by decide +kernel
theorem d2_9 : decode jdk_42_method_3_code 9 = .ok (.return_, 1) := by decide +kernel
theorem pd2 : parseMethodDescriptor "([C)V" = some ⟨[(.array .char)], none⟩ := by decide +kernel
theorem pn2 : plainFor y2 = true := by first | exact plainFor_of_name (by first | (simp [plainName, overriddenIn]; done) | decide +kernel) | decide +kernel | rfl
set_option maxRecDepth 65536 in
set_option maxHeartbeats 40000000 in
theorem con_str (l : Launch) (Z : State) (a0 : Array Value) (hw : ∀ d ∈ tables_1, d.before a0 Z = true) (h0 : Heap) (n0 : Nat) (Z0 : n0 ≤ h0.size) (s : Addr) (a : Addr) (ka : ClassId) (cs : List Int32) (A : Arv Z h0 a ka .char (Int32.ofNat cs.length) (cs.map Value.int) (.int 0)) (hp : Lat cs) (cz : Int32) (hcz : ¬ cz = 0) (O2 : Sta Z Z.heap "java/lang/String" "COMPACT_STRINGS" "Z" (.int cz)) (g0 : n0 ≤ s) (E : Exa Z h0 s "java/lang/String") (Fv : Fld Z h0 s "java/lang/String" "value" "[B" .null) (Fc : Fld Z h0 s "java/lang/String" "coder" "B" (.int 0)) (hh : Jvm.Lit.constHeld Z "java/lang/String" 7) (hcw : Jvm.Lit.compactW.before a0 Z = true) (L : List (String × Nat × String × Addr)) (K0 : CsOk CS Z h0 L) :
    Con l Z y2 jdk_42_method_3_code 2 none ({ frames := 3, cells := 4, slots := 64, locals := 68 } : Room) [] #[(.ref s), (.ref a)] (some L) h0 n0 (fun v h τ => v = none ∧ Keep h0 h [s] ∧ Str Z h s cs ∧ ∃ L', τ = some L' ∧ CsOk CS Z h L') := by
  refine Con.of_go pn2 (ls := #[.val (.ref s), .val (.ref a)]) (fun m => by first | (simp [entryFrame, mkF, argsToLocals, Value.category]; done) | rfl) ?_
  intro κ D
  refine Go.aloadN D (pc' := 1) d2_0 rfl rfl rfl ?_
  refine Go.aloadN D (pc' := 2) d2_1 rfl rfl rfl ?_
  refine Go.iconst D (pc' := 3) d2_2 rfl (v := (0 : Int32)) rfl ?_
  refine Go.aloadN D (pc' := 4) d2_3 rfl rfl rfl ?_
  refine Go.alen D (pc' := 5) d2_4 rfl A ?_
  refine Go.aconstNull D (pc' := 6) d2_5 rfl  ?_
  by_cases e : cs = []
  · skip
    subst e
    show Go κ (some L) h0 0 0 6 #[.val (.ref s), .val (.ref a)] [(.null), (.int (0 : Int32)), (.int (0 : Int32)), (.ref a), (.ref s)]
    refine Go.callI D (argsL := [(.ref a), (.int (0 : Int32)), (.int (0 : Int32)), (.null)]) (rest := []) (pc' := 9) (ce' := 4) (sl' := 64) (con_strE4 l Z a0 hw h0 n0 s a g0 E Fv Fc hh hcw L K0) rfl (hw _ (List.mem_of_getElem? (i := 11) rfl)) (hw _ (List.mem_of_getElem? (i := 12) rfl)) (hw _ (List.mem_of_getElem? (i := 2) rfl)) (hw _ (List.mem_of_getElem? (i := 14) rfl)) (by decide) d2_6 rfl pd3 rfl rfl rfl (by decide) (W := 0) rfl (by decide) (by decide) (by decide) (by decide) (by decide) ?_
    intro v6 h1 σ6 q6
    obtain ⟨rfl, q1, q2, L1, rfl, K1⟩ := q6
    show Go κ (some L1) h1 4 64 9 #[.val (.ref s), .val (.ref a)] []
    refine Go.vret D rfl d2_9 (by decide) (by decide) ?_
    exact ⟨rfl, q1, q2, L1, rfl, K1⟩
  · skip
    refine Go.callI D (argsL := [(.ref a), (.int (0 : Int32)), (.int (Int32.ofNat cs.length)), (.null)]) (rest := []) (pc' := 9) (ce' := 4) (sl' := 64) (con_strN4 l Z a0 hw h0 n0 Z0 (some L) s a ka cs A hp e cz hcz O2 g0 E Fv Fc) rfl (hw _ (List.mem_of_getElem? (i := 11) rfl)) (hw _ (List.mem_of_getElem? (i := 12) rfl)) (hw _ (List.mem_of_getElem? (i := 2) rfl)) (hw _ (List.mem_of_getElem? (i := 14) rfl)) (by decide) d2_6 rfl pd3 rfl rfl rfl (by decide) (W := 0) rfl (by decide) (by decide) (by decide) (by decide) (by decide) ?_
    intro v6 h1 σ6 q6
    obtain ⟨rfl, rfl, q1, q2⟩ := q6
    show Go κ (some L) h1 4 64 9 #[.val (.ref s), .val (.ref a)] []
    refine Go.vret D rfl d2_9 (by decide) (by decide) ?_
    exact ⟨rfl, q1, q2, L, rfl, K0.keep1 q1 (fun q hq => by
      obtain ⟨-, -, -, b, k, F2, -⟩ := K0 q hq
      exact Fld.ne F2 Fv (fun z => nomatch z)) E (hw _ (List.mem_of_getElem? (i := 1) rfl))⟩
abbrev y17 : MethodName := ⟨"java/lang/AbstractStringBuilder", "ensureCapacityInternal", "(I)V"⟩
theorem d17_0 : decode jdk_68_method_9_code 0 = .ok (.aload_n 0, 1) := by decide +kernel
theorem d17_1 : decode jdk_68_method_9_code 1 = .ok (.getfield 15, 3) := by decide +kernel
theorem d17_4 : decode jdk_68_method_9_code 4 = .ok (.arraylength, 1) := by decide +kernel
theorem d17_5 : decode jdk_68_method_9_code 5 = .ok (.aload_n 0, 1) := by decide +kernel
theorem d17_6 : decode jdk_68_method_9_code 6 = .ok (.getfield 22, 3) := by decide +kernel
theorem d17_9 : decode jdk_68_method_9_code 9 = .ok (.ishr, 1) := by decide +kernel
theorem d17_10 : decode jdk_68_method_9_code 10 = .ok (.istore_n 2, 1) := by decide +kernel
theorem d17_11 : decode jdk_68_method_9_code 11 = .ok (.iload_n 1, 1) := by decide +kernel
theorem d17_12 : decode jdk_68_method_9_code 12 = .ok (.iload_n 2, 1) := by decide +kernel
theorem d17_13 : decode jdk_68_method_9_code 13 = .ok (.isub, 1) := by decide +kernel
theorem d17_14 : decode jdk_68_method_9_code 14 = .ok (.ifCond .le 24, 3) := by decide +kernel
theorem d17_17 : decode jdk_68_method_9_code 17 = .ok (.aload_n 0, 1) := by decide +kernel
theorem d17_18 : decode jdk_68_method_9_code 18 = .ok (.aload_n 0, 1) := by decide +kernel
theorem d17_19 : decode jdk_68_method_9_code 19 = .ok (.getfield 15, 3) := by decide +kernel
theorem d17_22 : decode jdk_68_method_9_code 22 = .ok (.aload_n 0, 1) := by decide +kernel
theorem d17_23 : decode jdk_68_method_9_code 23 = .ok (.iload_n 1, 1) := by decide +kernel
theorem d17_24 : decode jdk_68_method_9_code 24 = .ok (.invokevirtual 104, 3) := by decide +kernel
theorem d17_27 : decode jdk_68_method_9_code 27 = .ok (.aload_n 0, 1) := by decide +kernel
theorem d17_28 : decode jdk_68_method_9_code 28 = .ok (.getfield 22, 3) := by decide +kernel
theorem d17_31 : decode jdk_68_method_9_code 31 = .ok (.ishl, 1) := by decide +kernel
theorem d17_32 : decode jdk_68_method_9_code 32 = .ok (.invokestatic 108, 3) := by decide +kernel
theorem d17_35 : decode jdk_68_method_9_code 35 = .ok (.putfield 15, 3) := by decide +kernel
theorem d17_38 : decode jdk_68_method_9_code 38 = .ok (.return_, 1) := by decide +kernel
theorem pd17 : parseMethodDescriptor "(I)V" = some ⟨[.int], none⟩ := by decide +kernel
theorem pn17 : plainFor y17 = true := by first | exact plainFor_of_name (by first | (simp [plainName, overriddenIn]; done) | decide +kernel) | decide +kernel | rfl
set_option maxRecDepth 65536 in
set_option maxHeartbeats 40000000 in
theorem con_ens (l : Launch) (Z : State) (a0 : Array Value) (hw : ∀ d ∈ tables_1, d.before a0 Z = true) (h0 : Heap) (n0 : Nat) (σ : Sg) (b vb : Addr) (kb : ClassId) (ts : List Int32) (S : SB Z h0 b vb kb ts) (m : Nat) (hm : m ≤ 16) :
    Con l Z y17 jdk_68_method_9_code 3 none ({ frames := 0, cells := 0, slots := 0, locals := 0 } : Room) [] #[(.ref b), (.int (Int32.ofNat m))] σ h0 n0 (fun v h τ => h0 = h ∧ σ = τ ∧ v = none) := by
  refine Con.of_go pn17 (ls := #[.val (.ref b), .val (.int (Int32.ofNat m)), .unset]) (fun m => by first | (simp [entryFrame, mkF, argsToLocals, Value.category]; done) | rfl) ?_
  intro κ D
  refine Go.aloadN D (pc' := 1) d17_0 rfl rfl rfl ?_
  refine Go.getF D (pc' := 4) (hw _ (List.mem_of_getElem? (i := 74) rfl)) d17_1 rfl S.2.1 ?_
  refine Go.alen D (pc' := 5) d17_4 rfl S.2.2.2.2 ?_
  refine Go.aloadN D (pc' := 6) d17_5 rfl rfl rfl ?_
  refine Go.getF D (pc' := 9) (hw _ (List.mem_of_getElem? (i := 76) rfl)) d17_6 rfl S.2.2.1 ?_
  refine Go.ishr D (pc' := 10) d17_9 rfl  ?_
  rw [own_shr0]
  refine Go.istoreN D (pc' := 11) d17_10 rfl (ls' := #[.val (.ref b), .val (.int (Int32.ofNat m)), .val (.int (16 : Int32))]) rfl ?_
  refine Go.iloadN D (pc' := 12) d17_11 rfl rfl ?_
  refine Go.iloadN D (pc' := 13) d17_12 rfl rfl ?_
  refine Go.isub D (pc' := 14) d17_13 rfl  ?_
  refine Go.ifc D (pc' := 38) (pc2 := 17) d17_14 (by decide) (by decide) rfl ?_ ?_
  · intro (hc14 : ¬ 0 < ((Int32.ofNat m) - (16 : Int32)))
    refine Go.vret D rfl d17_38 (by decide) (by decide) ?_
    exact ⟨rfl, rfl, rfl⟩
  · intro (hc14 : 0 < ((Int32.ofNat m) - (16 : Int32)))
    exact absurd hc14 (ens_no hm)
abbrev y19 : MethodName := ⟨"java/lang/AbstractStringBuilder", "inflateIfNeededFor", "(Ljava/lang/String;)V"⟩
theorem d19_0 : decode jdk_68_method_71_code 0 = .ok (.getstatic 18, 3) := by decide +kernel
theorem d19_3 : decode jdk_68_method_71_code 3 = .ok (.ifCond .eq 18, 3) := by decide +kernel
theorem d19_6 : decode jdk_68_method_71_code 6 = .ok (.aload_n 0, 1) := by decide +kernel
theorem d19_7 : decode jdk_68_method_71_code 7 = .ok (.getfield 22, 3) := by decide +kernel
theorem d19_10 : decode jdk_68_method_71_code 10 = .ok (.aload_n 1, 1) := by decide +kernel
theorem d19_11 : decode jdk_68_method_71_code 11 = .ok (.invokevirtual 40, 3) := by decide +kernel
theorem d19_14 : decode jdk_68_method_71_code 14 = .ok (.if_icmp .eq 7, 3) := by decide +kernel
theorem d19_17 : decode jdk_68_method_71_code 17 = .ok (.aload_n 0, 1) := by decide +kernel
theorem d19_18 : decode jdk_68_method_71_code 18 = .ok (.invokevirtual 195, 3) := by decide +kernel
theorem d19_21 : decode jdk_68_method_71_code 21 = .ok (.return_, 1) := by decide +kernel
theorem pd19 : parseMethodDescriptor "(Ljava/lang/String;)V" = some ⟨[(.object "java/lang/String")], none⟩ := by decide +kernel
theorem pn19 : plainFor y19 = true := by first | exact plainFor_of_name (by first | (simp [plainName, overriddenIn]; done) | decide +kernel) | decide +kernel | rfl
set_option maxRecDepth 65536 in
set_option maxHeartbeats 40000000 in
theorem con_inf (l : Launch) (Z : State) (a0 : Array Value) (hw : ∀ d ∈ tables_1, d.before a0 Z = true) (h0 : Heap) (n0 : Nat) (σ : Sg) (b vb : Addr) (kb : ClassId) (ts : List Int32) (S : SB Z h0 b vb kb ts) (s : Addr) (cs : List Int32) (U : Str Z h0 s cs) (cz : Int32) (hcz : ¬ cz = 0) (O2 : Sta Z Z.heap "java/lang/String" "COMPACT_STRINGS" "Z" (.int cz)) :
    Con l Z y19 jdk_68_method_71_code 2 none ({ frames := 1, cells := 0, slots := 0, locals := 14 } : Room) [] #[(.ref b), (.ref s)] σ h0 n0 (fun v h τ => h0 = h ∧ σ = τ ∧ v = none) := by
  refine Con.of_go pn19 (ls := #[.val (.ref b), .val (.ref s)]) (fun m => by first | (simp [entryFrame, mkF, argsToLocals, Value.category]; done) | rfl) ?_
  intro κ D
  refine Go.getS D (pc' := 3) (hw _ (List.mem_of_getElem? (i := 73) rfl)) d19_0 rfl O2 ?_
  refine Go.ifc D (pc' := 21) (pc2 := 6) d19_3 (by decide) (by decide) rfl ?_ ?_
  · intro (hc3 : cz = 0)
    exact absurd hc3 hcz
  · intro (hc3 : ¬ cz = 0)
    refine Go.aloadN D (pc' := 7) d19_6 rfl rfl rfl ?_
    refine Go.getF D (pc' := 10) (hw _ (List.mem_of_getElem? (i := 76) rfl)) d19_7 rfl S.2.2.1 ?_
    refine Go.aloadN D (pc' := 11) d19_10 rfl rfl rfl ?_
    refine Go.callV D (argsL := []) (rest := [(.int (0 : Int32))]) (pc' := 14) (ce' := 0) (sl' := 0) (con_scoder l Z a0 hw h0 n0 σ s U.1.2.1 cz hcz O2) (hw _ (List.mem_of_getElem? (i := 116) rfl)) (hw _ (List.mem_of_getElem? (i := 95) rfl)) (hw _ (List.mem_of_getElem? (i := 97) rfl)) (hw _ (List.mem_of_getElem? (i := 96) rfl)) (hw _ (List.mem_of_getElem? (i := 2) rfl)) (hw _ (List.mem_of_getElem? (i := 98) rfl)) (nfS (hw _ (List.mem_of_getElem? (i := 97) rfl))) (by decide) U.1.1 d19_11 rfl pd16 rfl rfl rfl (by decide) (W := 1) rfl (by decide) (by decide) (by decide) (by decide) (by decide) ?_
    intro v11 h11 σ11 q11
    obtain ⟨rfl, rfl, rfl⟩ := q11
    show Go κ σ h0 0 0 14 #[.val (.ref b), .val (.ref s)] [(.int (0 : Int32)), (.int (0 : Int32))]
    refine Go.icmp D (pc' := 21) (pc2 := 17) d19_14 (by decide) (by decide) rfl (fun _ => ?_) (fun (hc : ¬ (0 : Int32) = (0 : Int32)) => absurd hc (by decide))
    refine Go.vret D rfl d19_21 (by decide) (by decide) ?_
    exact ⟨rfl, rfl, rfl⟩
abbrev y20 : MethodName := ⟨"java/lang/String", "getBytes", "([BIB)V"⟩
theorem d20_0 : decode jdk_42_method_147_code 0 = .ok (.aload_n 0, 1) := by decide +kernel
theorem d20_1 : decode jdk_42_method_147_code 1 = .ok (.invokevirtual 335, 3) := by decide +kernel
theorem d20_4 : decode jdk_42_method_147_code 4 = .ok (.iload_n 3, 1) := by decide +kernel
theorem d20_5 : decode jdk_42_method_147_code 5 = .ok (.if_icmp .ne 23, 3) := by decide +kernel
theorem d20_8 : decode jdk_42_method_147_code 8 = .ok (.aload_n 0, 1) := by decide +kernel
theorem d20_9 : decode jdk_42_method_147_code 9 = .ok (.getfield 9, 3) := by decide +kernel
theorem d20_12 : decode jdk_42_method_147_code 12 = .ok (.iconst 0, 1) := by decide +kernel
theorem d20_13 : decode jdk_42_method_147_code 13 = .ok (.aload_n 1, 1) := by decide +kernel
theorem d20_14 : decode jdk_42_method_147_code 14 = .ok (.iload_n 2, 1) := by decide +kernel
theorem d20_15 : decode jdk_42_method_147_code 15 = .ok (.iload_n 3, 1) := by decide +kernel
theorem d20_16 : decode jdk_42_method_147_code 16 = .ok (.ishl, 1) := by decide +kernel
theorem d20_17 : decode jdk_42_method_147_code 17 = .ok (.aload_n 0, 1) := by decide +kernel
theorem d20_18 : decode jdk_42_method_147_code 18 = .ok (.getfield 9, 3) := by decide +kernel
theorem d20_21 : decode jdk_42_method_147_code 21 = .ok (.arraylength, 1) := by decide +kernel
theorem d20_22 : decode jdk_42_method_147_code 22 = .ok (.invokestatic 212, 3) := by decide +kernel
theorem d20_25 : decode jdk_42_method_147_code 25 = .ok (.goto 18, 3) := by decide +kernel
theorem d20_28 : decode jdk_42_method_147_code 28 = .ok (.aload_n 0, 1) := by decide +kernel
theorem d20_29 : decode jdk_42_method_147_code 29 = .ok (.getfield 9, 3) := by decide +kernel
theorem d20_32 : decode jdk_42_method_147_code 32 = .ok (.iconst 0, 1) := by decide +kernel
theorem d20_33 : decode jdk_42_method_147_code 33 = .ok (.aload_n 1, 1) := by decide +kernel
theorem d20_34 : decode jdk_42_method_147_code 34 = .ok (.iload_n 2, 1) := by decide +kernel
theorem d20_35 : decode jdk_42_method_147_code 35 = .ok (.aload_n 0, 1) := by decide +kernel
theorem d20_36 : decode jdk_42_method_147_code 36 = .ok (.getfield 9, 3) := by decide +kernel
theorem d20_39 : decode jdk_42_method_147_code 39 = .ok (.arraylength, 1) := by decide +kernel
theorem d20_40 : decode jdk_42_method_147_code 40 = .ok (.invokestatic 106, 3) := by decide +kernel
theorem d20_43 : decode jdk_42_method_147_code 43 = .ok (.return_, 1) := by decide +kernel
theorem pd20 : parseMethodDescriptor "([BIB)V" = some ⟨[(.array .byte), .int, .byte], none⟩ := by decide +kernel
theorem pn20 : plainFor y20 = true := by first | exact plainFor_of_name (by first | (simp [plainName, overriddenIn]; done) | decide +kernel) | decide +kernel | rfl
set_option maxRecDepth 65536 in
set_option maxHeartbeats 40000000 in
theorem con_sgb (l : Launch) (Z : State) (a0 : Array Value) (hw : ∀ d ∈ tables_1, d.before a0 Z = true) (h0 : Heap) (n0 : Nat) (σ : Sg) (s vb : Addr) (kb : ClassId) (cs ts : List Int32) (U : Str Z h0 s cs) (V : Arv Z h0 vb kb .byte (16 : Int32) (bv ts ++ List.replicate (16 - ts.length) (.int 0)) (.int 0)) (gv : n0 ≤ vb) (hs : ts.length + cs.length ≤ 16) (cz : Int32) (hcz : ¬ cz = 0) (O2 : Sta Z Z.heap "java/lang/String" "COMPACT_STRINGS" "Z" (.int cz)) :
    Con l Z y20 jdk_42_method_147_code 4 none ({ frames := 1, cells := 0, slots := 0, locals := 20 } : Room) [] #[(.ref s), (.ref vb), (.int (Int32.ofNat ts.length)), (.int (0 : Int32))] σ h0 n0 (fun v h τ => σ = τ ∧ v = none ∧ Keep h0 h [vb] ∧ Arv Z h vb kb .byte (16 : Int32) (bv (ts ++ cs) ++ List.replicate (16 - (ts ++ cs).length) (.int 0)) (.int 0)) := by
  refine Con.of_go pn20 (ls := #[.val (.ref s), .val (.ref vb), .val (.int (Int32.ofNat ts.length)), .val (.int (0 : Int32))]) (fun m => by first | (simp [entryFrame, mkF, argsToLocals, Value.category]; done) | rfl) ?_
  intro κ D
  obtain ⟨e1, e2, c, kc, e3, e4⟩ := id U.1
  refine Go.aloadN D (pc' := 1) d20_0 rfl rfl rfl ?_
  refine Go.callV D (argsL := []) (rest := []) (pc' := 4) (ce' := 0) (sl' := 0) (con_scoder l Z a0 hw h0 n0 σ s e2 cz hcz O2) (hw _ (List.mem_of_getElem? (i := 94) rfl)) (hw _ (List.mem_of_getElem? (i := 95) rfl)) (hw _ (List.mem_of_getElem? (i := 97) rfl)) (hw _ (List.mem_of_getElem? (i := 96) rfl)) (hw _ (List.mem_of_getElem? (i := 2) rfl)) (hw _ (List.mem_of_getElem? (i := 98) rfl)) (nfS (hw _ (List.mem_of_getElem? (i := 97) rfl))) (by decide) e1 d20_1 rfl pd16 rfl rfl rfl (by decide) (W := 0) rfl (by decide) (by decide) (by decide) (by decide) (by decide) ?_
  intro v1 h1 σ1 q1
  obtain ⟨rfl, rfl, rfl⟩ := q1
  show Go κ σ h0 0 0 4 #[.val (.ref s), .val (.ref vb), .val (.int (Int32.ofNat ts.length)), .val (.int (0 : Int32))] [(.int (0 : Int32))]
  refine Go.iloadN D (pc' := 5) d20_4 rfl rfl ?_
  refine Go.icmp D (pc' := 28) (pc2 := 8) d20_5 (by decide) (by decide) rfl (fun (hc : ¬ (0 : Int32) = (0 : Int32)) => absurd hc (by decide)) (fun _ => ?_)
  refine Go.aloadN D (pc' := 9) d20_8 rfl rfl rfl ?_
  refine Go.getF D (pc' := 12) (hw _ (List.mem_of_getElem? (i := 32) rfl)) d20_9 rfl e3 ?_
  refine Go.iconst D (pc' := 13) d20_12 rfl (v := (0 : Int32)) rfl ?_
  refine Go.aloadN D (pc' := 14) d20_13 rfl rfl rfl ?_
  refine Go.iloadN D (pc' := 15) d20_14 rfl rfl ?_
  refine Go.iloadN D (pc' := 16) d20_15 rfl rfl ?_
  refine Go.ishl D (pc' := 17) d20_16 rfl  ?_
  rw [own_shl0]
  refine Go.aloadN D (pc' := 18) d20_17 rfl rfl rfl ?_
  refine Go.getF D (pc' := 21) (hw _ (List.mem_of_getElem? (i := 32) rfl)) d20_18 rfl e3 ?_
  refine Go.alen D (pc' := 22) d20_21 rfl e4 ?_
  refine Go.acopy D (pc' := 25) (sN := 0) (dN := ts.length) (nN := cs.length) (hw _ (List.mem_of_getElem? (i := 122) rfl)) (hw _ (List.mem_of_getElem? (i := 125) rfl)) (hw _ (List.mem_of_getElem? (i := 123) rfl)) (hw _ (List.mem_of_getElem? (i := 124) rfl)) d20_22 rfl e4 V rfl (by decide) (own_nn (by omega)) (own_nn (by omega)) rfl (own_tn (by omega)) (own_tn (by omega)) (by rw [own_tn (by omega)]; omega) (by rw [show (16 : Int32).toNatClampNeg = 16 from rfl]; exact hs) (by rw [List.length_append, bv_len, List.length_replicate]; omega) gv rfl (by decide) (W := 0) rfl (by decide) ?_
  intro h1 K1 V1
  refine Go.goto D (pc' := 43) d20_25 (by decide) (by decide) ?_
  refine Go.vret D rfl d20_43 (by decide) (by decide) ?_
  exact ⟨rfl, rfl, K1, by rw [← sb_cat hs]; exact V1⟩
abbrev y18 : MethodName := ⟨"java/lang/AbstractStringBuilder", "putStringAt", "(ILjava/lang/String;)V"⟩
theorem d18_0 : decode jdk_68_method_73_code 0 = .ok (.aload_n 0, 1) := by decide +kernel
theorem d18_1 : decode jdk_68_method_73_code 1 = .ok (.aload_n 2, 1) := by decide +kernel
theorem d18_2 : decode jdk_68_method_73_code 2 = .ok (.invokevirtual 397, 3) := by decide +kernel
theorem d18_5 : decode jdk_68_method_73_code 5 = .ok (.aload_n 2, 1) := by decide +kernel
theorem d18_6 : decode jdk_68_method_73_code 6 = .ok (.aload_n 0, 1) := by decide +kernel
theorem d18_7 : decode jdk_68_method_73_code 7 = .ok (.getfield 15, 3) := by decide +kernel
theorem d18_10 : decode jdk_68_method_73_code 10 = .ok (.iload_n 1, 1) := by decide +kernel
theorem d18_11 : decode jdk_68_method_73_code 11 = .ok (.aload_n 0, 1) := by decide +kernel
theorem d18_12 : decode jdk_68_method_73_code 12 = .ok (.getfield 22, 3) := by decide +kernel
theorem d18_15 : decode jdk_68_method_73_code 15 = .ok (.invokevirtual 399, 3) := by decide +kernel
theorem d18_18 : decode jdk_68_method_73_code 18 = .ok (.return_, 1) := by decide +kernel
theorem pd18 : parseMethodDescriptor "(ILjava/lang/String;)V" = some ⟨[.int, (.object "java/lang/String")], none⟩ := by decide +kernel
theorem pn18 : plainFor y18 = true := by first | exact plainFor_of_name (by first | (simp [plainName, overriddenIn]; done) | decide +kernel) | decide +kernel | rfl
set_option maxRecDepth 65536 in
set_option maxHeartbeats 40000000 in
theorem con_put (l : Launch) (Z : State) (a0 : Array Value) (hw : ∀ d ∈ tables_1, d.before a0 Z = true) (h0 : Heap) (n0 : Nat) (σ : Sg) (b vb : Addr) (kb : ClassId) (ts : List Int32) (S : SB Z h0 b vb kb ts) (gv : n0 ≤ vb) (s : Addr) (cs : List Int32) (U : Str Z h0 s cs) (hs : ts.length + cs.length ≤ 16) (cz : Int32) (hcz : ¬ cz = 0) (O2 : Sta Z Z.heap "java/lang/String" "COMPACT_STRINGS" "Z" (.int cz)) :
    Con l Z y18 jdk_68_method_73_code 3 none ({ frames := 2, cells := 0, slots := 0, locals := 40 } : Room) [] #[(.ref b), (.int (Int32.ofNat ts.length)), (.ref s)] σ h0 n0 (fun v h τ => σ = τ ∧ v = none ∧ Keep h0 h [vb] ∧ Arv Z h vb kb .byte (16 : Int32) (bv (ts ++ cs) ++ List.replicate (16 - (ts ++ cs).length) (.int 0)) (.int 0)) := by
  refine Con.of_go pn18 (ls := #[.val (.ref b), .val (.int (Int32.ofNat ts.length)), .val (.ref s)]) (fun m => by first | (simp [entryFrame, mkF, argsToLocals, Value.category]; done) | rfl) ?_
  intro κ D
  refine Go.aloadN D (pc' := 1) d18_0 rfl rfl rfl ?_
  refine Go.aloadN D (pc' := 2) d18_1 rfl rfl rfl ?_
  refine Go.callV D (argsL := [(.ref s)]) (rest := []) (pc' := 5) (ce' := 0) (sl' := 0) (con_inf l Z a0 hw h0 n0 σ b vb kb ts S s cs U cz hcz O2) (hw _ (List.mem_of_getElem? (i := 111) rfl)) (declOf (hw _ (List.mem_of_getElem? (i := 112) rfl)) (hw _ (List.mem_of_getElem? (i := 115) rfl))) (hw _ (List.mem_of_getElem? (i := 114) rfl)) (hw _ (List.mem_of_getElem? (i := 112) rfl)) (hw _ (List.mem_of_getElem? (i := 70) rfl)) (hw _ (List.mem_of_getElem? (i := 115) rfl)) (nfS (hw _ (List.mem_of_getElem? (i := 114) rfl))) (by decide) S.1 d18_2 rfl pd19 rfl rfl rfl (by decide) (W := 0) rfl (by decide) (by decide) (by decide) (by decide) (by decide) ?_
  intro v2 h2 σ2 q2
  obtain ⟨rfl, rfl, rfl⟩ := q2
  show Go κ σ h0 0 0 5 #[.val (.ref b), .val (.int (Int32.ofNat ts.length)), .val (.ref s)] []
  refine Go.aloadN D (pc' := 6) d18_5 rfl rfl rfl ?_
  refine Go.aloadN D (pc' := 7) d18_6 rfl rfl rfl ?_
  refine Go.getF D (pc' := 10) (hw _ (List.mem_of_getElem? (i := 74) rfl)) d18_7 rfl S.2.1 ?_
  refine Go.iloadN D (pc' := 11) d18_10 rfl rfl ?_
  refine Go.aloadN D (pc' := 12) d18_11 rfl rfl rfl ?_
  refine Go.getF D (pc' := 15) (hw _ (List.mem_of_getElem? (i := 76) rfl)) d18_12 rfl S.2.2.1 ?_
  refine Go.callV D (argsL := [(.ref vb), (.int (Int32.ofNat ts.length)), (.int (0 : Int32))]) (rest := []) (pc' := 18) (ce' := 0) (sl' := 0) (con_sgb l Z a0 hw h0 n0 σ s vb kb cs ts U S.2.2.2.2 gv hs cz hcz O2) (hw _ (List.mem_of_getElem? (i := 117) rfl)) (hw _ (List.mem_of_getElem? (i := 118) rfl)) (hw _ (List.mem_of_getElem? (i := 120) rfl)) (hw _ (List.mem_of_getElem? (i := 119) rfl)) (hw _ (List.mem_of_getElem? (i := 2) rfl)) (hw _ (List.mem_of_getElem? (i := 121) rfl)) (nfS (hw _ (List.mem_of_getElem? (i := 120) rfl))) (by decide) U.1.1 d18_15 rfl pd20 rfl rfl rfl (by decide) (W := 0) rfl (by decide) (by decide) (by decide) (by decide) (by decide) ?_
  intro v15 h1 σ15 q15
  obtain ⟨rfl, rfl, k1, v1⟩ := q15
  show Go κ σ h1 0 0 18 #[.val (.ref b), .val (.int (Int32.ofNat ts.length)), .val (.ref s)] []
  refine Go.vret D rfl d18_18 (by decide) (by decide) ?_
  exact ⟨rfl, rfl, k1, v1⟩
abbrev y14 : MethodName := ⟨"java/lang/AbstractStringBuilder", "append", "(Ljava/lang/String;)Ljava/lang/AbstractStringBuilder;"⟩
theorem d14_0 : decode jdk_68_method_22_code 0 = .ok (.aload_n 1, 1) := by decide +kernel
theorem d14_1 : decode jdk_68_method_22_code 1 = .ok (.ifnonnull 8, 3) := by decide +kernel
theorem d14_4 : decode jdk_68_method_22_code 4 = .ok (.aload_n 0, 1) := by decide +kernel
theorem d14_5 : decode jdk_68_method_22_code 5 = .ok (.invokevirtual 204, 3) := by decide +kernel
theorem d14_8 : decode jdk_68_method_22_code 8 = .ok (.areturn, 1) := by decide +kernel
theorem d14_9 : decode jdk_68_method_22_code 9 = .ok (.aload_n 1, 1) := by decide +kernel
theorem d14_10 : decode jdk_68_method_22_code 10 = .ok (.invokevirtual 32, 3) := by decide +kernel
theorem d14_13 : decode jdk_68_method_22_code 13 = .ok (.istore_n 2, 1) := by decide +kernel
theorem d14_14 : decode jdk_68_method_22_code 14 = .ok (.aload_n 0, 1) := by decide +kernel
theorem d14_15 : decode jdk_68_method_22_code 15 = .ok (.aload_n 0, 1) := by decide +kernel
theorem d14_16 : decode jdk_68_method_22_code 16 = .ok (.getfield 79, 3) := by decide +kernel
theorem d14_19 : decode jdk_68_method_22_code 19 = .ok (.iload_n 2, 1) := by decide +kernel
theorem d14_20 : decode jdk_68_method_22_code 20 = .ok (.iadd, 1) := by decide +kernel
theorem d14_21 : decode jdk_68_method_22_code 21 = .ok (.invokevirtual 100, 3) := by decide +kernel
theorem d14_24 : decode jdk_68_method_22_code 24 = .ok (.aload_n 0, 1) := by decide +kernel
theorem d14_25 : decode jdk_68_method_22_code 25 = .ok (.aload_n 0, 1) := by decide +kernel
theorem d14_26 : decode jdk_68_method_22_code 26 = .ok (.getfield 79, 3) := by decide +kernel
theorem d14_29 : decode jdk_68_method_22_code 29 = .ok (.aload_n 1, 1) := by decide +kernel
theorem d14_30 : decode jdk_68_method_22_code 30 = .ok (.invokevirtual 208, 3) := by decide +kernel
theorem d14_33 : decode jdk_68_method_22_code 33 = .ok (.aload_n 0, 1) := by decide +kernel
theorem d14_34 : decode jdk_68_method_22_code 34 = .ok (.dup, 1) := by decide +kernel
theorem d14_35 : decode jdk_68_method_22_code 35 = .ok (.getfield 79, 3) := by decide +kernel
theorem d14_38 : decode jdk_68_method_22_code 38 = .ok (.iload_n 2, 1) := by decide +kernel
theorem d14_39 : decode jdk_68_method_22_code 39 = .ok (.iadd, 1) := by decide +kernel
theorem d14_40 : decode jdk_68_method_22_code 40 = .ok (.putfield 79, 3) := by decide +kernel
theorem d14_43 : decode jdk_68_method_22_code 43 = .ok (.aload_n 0, 1) := by decide +kernel
theorem d14_44 : decode jdk_68_method_22_code 44 = .ok (.areturn, 1) := by decide +kernel
theorem pd14 : parseMethodDescriptor "(Ljava/lang/String;)Ljava/lang/AbstractStringBuilder;" = some ⟨[(.object "java/lang/String")], (some (.object "java/lang/AbstractStringBuilder"))⟩ := by decide +kernel
theorem pn14 : plainFor y14 = true := by first | exact plainFor_of_name (by first | (simp [plainName, overriddenIn]; done) | decide +kernel) | decide +kernel | rfl
set_option maxRecDepth 65536 in
set_option maxHeartbeats 40000000 in
theorem con_aapp (l : Launch) (Z : State) (a0 : Array Value) (hw : ∀ d ∈ tables_1, d.before a0 Z = true) (h0 : Heap) (n0 : Nat) (σ : Sg) (b vb : Addr) (kb : ClassId) (ts : List Int32) (S : SB Z h0 b vb kb ts) (g0 : n0 ≤ b) (gv : n0 ≤ vb) (s : Addr) (cs : List Int32) (U : Str Z h0 s cs) (hs : ts.length + cs.length ≤ 16) (cz : Int32) (hcz : ¬ cz = 0) (O2 : Sta Z Z.heap "java/lang/String" "COMPACT_STRINGS" "Z" (.int cz)) :
    Con l Z y14 jdk_68_method_22_code 3 ((some (.object "java/lang/AbstractStringBuilder"))) ({ frames := 3, cells := 0, slots := 0, locals := 60 } : Room) [] #[(.ref b), (.ref s)] σ h0 n0 (fun v h τ => σ = τ ∧ v = some (.ref b) ∧ Keep h0 h [b, vb] ∧ SB Z h b vb kb (ts ++ cs)) := by
  refine Con.of_go pn14 (ls := #[.val (.ref b), .val (.ref s), .unset]) (fun m => by first | (simp [entryFrame, mkF, argsToLocals, Value.category]; done) | rfl) ?_
  intro κ D
  have nb : b ≠ vb := Exa.neArv S.1 S.2.2.2.2 (hw _ (List.mem_of_getElem? (i := 61) rfl))
  refine Go.aloadN D (pc' := 1) d14_0 rfl rfl rfl ?_
  refine Go.ifnonnullY D (pc' := 9) d14_1 (by decide) (by decide) ?_
  refine Go.aloadN D (pc' := 10) d14_9 rfl rfl rfl ?_
  refine Go.callV D (argsL := []) (rest := []) (pc' := 13) (ce' := 0) (sl' := 0) (con_slen l Z a0 hw h0 n0 σ s cs U cz hcz O2) (hw _ (List.mem_of_getElem? (i := 89) rfl)) (hw _ (List.mem_of_getElem? (i := 90) rfl)) (hw _ (List.mem_of_getElem? (i := 92) rfl)) (hw _ (List.mem_of_getElem? (i := 91) rfl)) (hw _ (List.mem_of_getElem? (i := 2) rfl)) (hw _ (List.mem_of_getElem? (i := 93) rfl)) (nfS (hw _ (List.mem_of_getElem? (i := 92) rfl))) (by decide) U.1.1 d14_10 rfl pd15 rfl rfl rfl (by decide) (W := 0) rfl (by decide) (by decide) (by decide) (by decide) (by decide) ?_
  intro v10 h10 σ10 q10
  obtain ⟨rfl, rfl, rfl⟩ := q10
  show Go κ σ h0 0 0 13 #[.val (.ref b), .val (.ref s), .unset] [(.int (Int32.ofNat cs.length))]
  refine Go.istoreN D (pc' := 14) d14_13 rfl (ls' := #[.val (.ref b), .val (.ref s), .val (.int (Int32.ofNat cs.length))]) rfl ?_
  refine Go.aloadN D (pc' := 15) d14_14 rfl rfl rfl ?_
  refine Go.aloadN D (pc' := 16) d14_15 rfl rfl rfl ?_
  refine Go.getF D (pc' := 19) (hw _ (List.mem_of_getElem? (i := 99) rfl)) d14_16 rfl S.2.2.2.1 ?_
  refine Go.iloadN D (pc' := 20) d14_19 rfl rfl ?_
  refine Go.iadd D (pc' := 21) d14_20 rfl  ?_
  rw [own_add]
  refine Go.callV D (argsL := [(.int (Int32.ofNat (ts.length + cs.length)))]) (rest := []) (pc' := 24) (ce' := 0) (sl' := 0) (con_ens l Z a0 hw h0 n0 σ b vb kb ts S (ts.length + cs.length) hs) (hw _ (List.mem_of_getElem? (i := 101) rfl)) (declOf (hw _ (List.mem_of_getElem? (i := 102) rfl)) (hw _ (List.mem_of_getElem? (i := 105) rfl))) (hw _ (List.mem_of_getElem? (i := 104) rfl)) (hw _ (List.mem_of_getElem? (i := 102) rfl)) (hw _ (List.mem_of_getElem? (i := 70) rfl)) (hw _ (List.mem_of_getElem? (i := 105) rfl)) (nfS (hw _ (List.mem_of_getElem? (i := 104) rfl))) (by decide) S.1 d14_21 rfl pd17 rfl rfl rfl (by decide) (W := 0) rfl (by decide) (by decide) (by decide) (by decide) (by decide) ?_
  intro v21 h21 σ21 q21
  obtain ⟨rfl, rfl, rfl⟩ := q21
  show Go κ σ h0 0 0 24 #[.val (.ref b), .val (.ref s), .val (.int (Int32.ofNat cs.length))] []
  refine Go.aloadN D (pc' := 25) d14_24 rfl rfl rfl ?_
  refine Go.aloadN D (pc' := 26) d14_25 rfl rfl rfl ?_
  refine Go.getF D (pc' := 29) (hw _ (List.mem_of_getElem? (i := 99) rfl)) d14_26 rfl S.2.2.2.1 ?_
  refine Go.aloadN D (pc' := 30) d14_29 rfl rfl rfl ?_
  refine Go.callV D (argsL := [(.int (Int32.ofNat ts.length)), (.ref s)]) (rest := []) (pc' := 33) (ce' := 0) (sl' := 0) (con_put l Z a0 hw h0 n0 σ b vb kb ts S gv s cs U hs cz hcz O2) (hw _ (List.mem_of_getElem? (i := 106) rfl)) (declOf (hw _ (List.mem_of_getElem? (i := 107) rfl)) (hw _ (List.mem_of_getElem? (i := 110) rfl))) (hw _ (List.mem_of_getElem? (i := 109) rfl)) (hw _ (List.mem_of_getElem? (i := 107) rfl)) (hw _ (List.mem_of_getElem? (i := 70) rfl)) (hw _ (List.mem_of_getElem? (i := 110) rfl)) (nfS (hw _ (List.mem_of_getElem? (i := 109) rfl))) (by decide) S.1 d14_30 rfl pd18 rfl rfl rfl (by decide) (W := 0) rfl (by decide) (by decide) (by decide) (by decide) (by decide) ?_
  intro v30 h1 σ30 q30
  obtain ⟨rfl, rfl, k1, v1⟩ := q30
  show Go κ σ h1 0 0 33 #[.val (.ref b), .val (.ref s), .val (.int (Int32.ofNat cs.length))] []
  refine Go.aloadN D (pc' := 34) d14_33 rfl rfl rfl ?_
  refine Go.dup D (pc' := 35) d14_34 rfl rfl ?_
  refine Go.getF D (pc' := 38) (hw _ (List.mem_of_getElem? (i := 99) rfl)) d14_35 rfl (S.2.2.2.1.keep k1 (nin1 nb)) ?_
  refine Go.iloadN D (pc' := 39) d14_38 rfl rfl ?_
  refine Go.iadd D (pc' := 40) d14_39 rfl  ?_
  rw [own_add]
  refine Go.putF D (pc' := 43) (hw _ (List.mem_of_getElem? (i := 99) rfl)) d14_40 rfl (S.2.2.2.1.keep k1 (nin1 nb)) (S.1.keep k1) (Or.inl (hw _ (List.mem_of_getElem? (i := 100) rfl))) (hw _ (List.mem_of_getElem? (i := 61) rfl)) (ty := .int) (by decide) rfl rfl g0 ?_
  intro h2 W2
  refine Go.aloadN D (pc' := 44) d14_43 rfl rfl rfl ?_
  refine Go.aret D rfl rfl rfl d14_44 (by decide) (by decide) ?_
  refine ⟨rfl, rfl, ((Keep.refl h0 [b, vb]).trans k1 (fun x hx => Or.inl (by simp only [List.mem_cons, List.not_mem_nil, or_false] at hx ⊢; exact Or.inr hx))).wr W2 (Or.inl (by simp)), (S.1.keep k1).wr W2, (S.2.1.keep k1 (nin1 nb)).other W2 (Or.inr (slot_ne (Or.inl (hw _ (List.mem_of_getElem? (i := 75) rfl))) (Or.inl (hw _ (List.mem_of_getElem? (i := 100) rfl))) (by decide) (t := .array .byte) (t' := .int) (by decide) (by decide))), (S.2.2.1.keep k1 (nin1 nb)).other W2 (Or.inr (slot_ne (Or.inl (hw _ (List.mem_of_getElem? (i := 77) rfl))) (Or.inl (hw _ (List.mem_of_getElem? (i := 100) rfl))) (by decide) (t := .byte) (t' := .int) (by decide) (by decide))), ?_, v1.other W2 (Ne.symm nb)⟩
  rw [List.length_append]; exact (S.2.2.2.1.keep k1 (nin1 nb)).same W2
abbrev y13 : MethodName := ⟨"java/lang/StringBuilder", "append", "(Ljava/lang/String;)Ljava/lang/StringBuilder;"⟩
theorem d13_0 : decode jdk_67_method_7_code 0 = .ok (.aload_n 0, 1) := by decide +kernel
theorem d13_1 : decode jdk_67_method_7_code 1 = .ok (.aload_n 1, 1) := by decide +kernel
theorem d13_2 : decode jdk_67_method_7_code 2 = .ok (.invokespecial 29, 3) := by decide +kernel
theorem d13_5 : decode jdk_67_method_7_code 5 = .ok (.pop, 1) := by decide +kernel
theorem d13_6 : decode jdk_67_method_7_code 6 = .ok (.aload_n 0, 1) := by decide +kernel
theorem d13_7 : decode jdk_67_method_7_code 7 = .ok (.areturn, 1) := by decide +kernel
theorem pd13 : parseMethodDescriptor "(Ljava/lang/String;)Ljava/lang/StringBuilder;" = some ⟨[(.object "java/lang/String")], (some (.object "java/lang/StringBuilder"))⟩ := by decide +kernel
theorem pn13 : plainFor y13 = true := by first | exact plainFor_of_name (by first | (simp [plainName, overriddenIn]; done) | decide +kernel) | decide +kernel | rfl
set_option maxRecDepth 65536 in
set_option maxHeartbeats 40000000 in
theorem con_sapp (l : Launch) (Z : State) (a0 : Array Value) (hw : ∀ d ∈ tables_1, d.before a0 Z = true) (h0 : Heap) (n0 : Nat) (σ : Sg) (b vb : Addr) (kb : ClassId) (ts : List Int32) (S : SB Z h0 b vb kb ts) (g0 : n0 ≤ b) (gv : n0 ≤ vb) (s : Addr) (cs : List Int32) (U : Str Z h0 s cs) (hs : ts.length + cs.length ≤ 16) (cz : Int32) (hcz : ¬ cz = 0) (O2 : Sta Z Z.heap "java/lang/String" "COMPACT_STRINGS" "Z" (.int cz)) :
    Con l Z y13 jdk_67_method_7_code 2 ((some (.object "java/lang/StringBuilder"))) ({ frames := 4, cells := 0, slots := 0, locals := 75 } : Room) [] #[(.ref b), (.ref s)] σ h0 n0 (fun v h τ => σ = τ ∧ v = some (.ref b) ∧ Keep h0 h [b, vb] ∧ SB Z h b vb kb (ts ++ cs)) := by
  refine Con.of_go pn13 (ls := #[.val (.ref b), .val (.ref s)]) (fun m => by first | (simp [entryFrame, mkF, argsToLocals, Value.category]; done) | rfl) ?_
  intro κ D
  refine Go.aloadN D (pc' := 1) d13_0 rfl rfl rfl ?_
  refine Go.aloadN D (pc' := 2) d13_1 rfl rfl rfl ?_
  refine Go.callP D (argsL := [(.ref s)]) (rest := []) (pc' := 5) (ce' := 0) (sl' := 0) (con_aapp l Z a0 hw h0 n0 σ b vb kb ts S g0 gv s cs U hs cz hcz O2) (by decide) (hw _ (List.mem_of_getElem? (i := 84) rfl)) (sameOf (by decide) (hw _ (List.mem_of_getElem? (i := 85) rfl)) (hw _ (List.mem_of_getElem? (i := 104) rfl)) rfl) (hw _ (List.mem_of_getElem? (i := 85) rfl)) (hw _ (List.mem_of_getElem? (i := 86) rfl)) (hw _ (List.mem_of_getElem? (i := 70) rfl)) (hw _ (List.mem_of_getElem? (i := 88) rfl)) (Ins.self S.1) d13_2 rfl pd14 rfl rfl rfl (by decide) (W := 0) rfl (by decide) (by decide) (by decide) (by decide) (by decide) ?_
  intro v2 h1 σ2 q2
  obtain ⟨rfl, rfl, k1, S1⟩ := q2
  show Go κ σ h1 0 0 5 #[.val (.ref b), .val (.ref s)] [(.ref b)]
  refine Go.pop D (pc' := 6) d13_5 rfl rfl ?_
  refine Go.aloadN D (pc' := 7) d13_6 rfl rfl rfl ?_
  refine Go.aret D rfl rfl rfl d13_7 (by decide) (by decide) ?_
  exact ⟨rfl, rfl, k1, S1⟩
abbrev y12 : MethodName := ⟨"java/lang/AbstractStringBuilder", "<init>", "(I)V"⟩
theorem d12_0 : decode jdk_68_method_2_code 0 = .ok (.aload_n 0, 1) := by decide +kernel
theorem d12_1 : decode jdk_68_method_2_code 1 = .ok (.invokespecial 3, 3) := by decide +kernel
theorem d12_4 : decode jdk_68_method_2_code 4 = .ok (.getstatic 18, 3) := by decide +kernel
theorem d12_7 : decode jdk_68_method_2_code 7 = .ok (.ifCond .eq 18, 3) := by decide +kernel
theorem d12_10 : decode jdk_68_method_2_code 10 = .ok (.aload_n 0, 1) := by decide +kernel
theorem d12_11 : decode jdk_68_method_2_code 11 = .ok (.iload_n 1, 1) := by decide +kernel
theorem d12_12 : decode jdk_68_method_2_code 12 = .ok (.newarray .byte, 2) := by decide +kernel
theorem d12_14 : decode jdk_68_method_2_code 14 = .ok (.putfield 15, 3) := by decide +kernel
theorem d12_17 : decode jdk_68_method_2_code 17 = .ok (.aload_n 0, 1) := by decide +kernel
theorem d12_18 : decode jdk_68_method_2_code 18 = .ok (.iconst 0, 1) := by decide +kernel
theorem d12_19 : decode jdk_68_method_2_code 19 = .ok (.putfield 22, 3) := by decide +kernel
theorem d12_22 : decode jdk_68_method_2_code 22 = .ok (.goto 16, 3) := by decide +kernel
theorem d12_25 : decode jdk_68_method_2_code 25 = .ok (.aload_n 0, 1) := by decide +kernel
theorem d12_26 : decode jdk_68_method_2_code 26 = .ok (.iload_n 1, 1) := by decide +kernel
theorem d12_27 : decode jdk_68_method_2_code 27 = .ok (.invokestatic 26, 3) := by decide +kernel
theorem d12_30 : decode jdk_68_method_2_code 30 = .ok (.putfield 15, 3) := by decide +kernel
theorem d12_33 : decode jdk_68_method_2_code 33 = .ok (.aload_n 0, 1) := by decide +kernel
theorem d12_34 : decode jdk_68_method_2_code 34 = .ok (.iconst 1, 1) := by decide +kernel
theorem d12_35 : decode jdk_68_method_2_code 35 = .ok (.putfield 22, 3) := by decide +kernel
theorem d12_38 : decode jdk_68_method_2_code 38 = .ok (.return_, 1) := by decide +kernel
theorem pd12 : parseMethodDescriptor "(I)V" = some ⟨[.int], none⟩ := by decide +kernel
theorem pn12 : plainFor y12 = true := by first | exact plainFor_of_name (by first | (simp [plainName, overriddenIn]; done) | decide +kernel) | decide +kernel | rfl
set_option maxRecDepth 65536 in
set_option maxHeartbeats 40000000 in
theorem con_anew (l : Launch) (Z : State) (a0 : Array Value) (hw : ∀ d ∈ tables_1, d.before a0 Z = true) (h0 : Heap) (n0 : Nat) (σ : Sg) (Z0 : n0 ≤ h0.size) (b : Addr) (g0 : n0 ≤ b) (E : Exa Z h0 b "java/lang/StringBuilder") (Fv : Fld Z h0 b "java/lang/AbstractStringBuilder" "value" "[B" .null) (Fc : Fld Z h0 b "java/lang/AbstractStringBuilder" "coder" "B" (.int 0)) (Fn : Fld Z h0 b "java/lang/AbstractStringBuilder" "count" "I" (.int 0)) (cz : Int32) (hcz : ¬ cz = 0) (O2 : Sta Z Z.heap "java/lang/String" "COMPACT_STRINGS" "Z" (.int cz)) :
    Con l Z y12 jdk_68_method_2_code 2 none ({ frames := 1, cells := 1, slots := 16, locals := 14 } : Room) [] #[(.ref b), (.int (16 : Int32))] σ h0 n0 (fun v h τ => σ = τ ∧ v = none ∧ Keep h0 h [b] ∧ ∃ vb kb, h0.size ≤ vb ∧ SB Z h b vb kb []) := by
  refine Con.of_go pn12 (ls := #[.val (.ref b), .val (.int (16 : Int32))]) (fun m => by first | (simp [entryFrame, mkF, argsToLocals, Value.category]; done) | rfl) ?_
  intro κ D
  have lb := own_ltn E.lt
  refine Go.aloadN D (pc' := 1) d12_0 rfl rfl rfl ?_
  refine Go.initO D (pc' := 4) (hw _ (List.mem_of_getElem? (i := 72) rfl)) (hw _ (List.mem_of_getElem? (i := 16) rfl)) (hw _ (List.mem_of_getElem? (i := 17) rfl)) d12_1 rfl rfl (by decide) (W := 0) rfl (by decide) ?_
  refine Go.getS D (pc' := 7) (hw _ (List.mem_of_getElem? (i := 73) rfl)) d12_4 rfl O2 ?_
  refine Go.ifc D (pc' := 25) (pc2 := 10) d12_7 (by decide) (by decide) rfl ?_ ?_
  · intro (hc7 : cz = 0)
    exact absurd hc7 hcz
  · intro (hc7 : ¬ cz = 0)
    refine Go.aloadN D (pc' := 11) d12_10 rfl rfl rfl ?_
    refine Go.iloadN D (pc' := 12) d12_11 rfl rfl ?_
    refine Go.newP D (pc' := 14) (aty := .byte) (cap := 16) (ce' := 1) (sl' := 16) (hw _ (List.mem_of_getElem? (i := 23) rfl)) d12_12 rfl (by decide) (by decide) (by decide) rfl rfl (by decide) (by decide) ?_
    intro h1 vb kb gvb E1 B1
    refine Go.putF D (pc' := 17) (hw _ (List.mem_of_getElem? (i := 74) rfl)) d12_14 rfl (Fv.ext E1) (E.ext E1) (Or.inl (hw _ (List.mem_of_getElem? (i := 75) rfl))) (hw _ (List.mem_of_getElem? (i := 61) rfl)) (ty := (.array .byte)) (by decide) rfl rfl g0 ?_
    intro h2 W2
    refine Go.aloadN D (pc' := 18) d12_17 rfl rfl rfl ?_
    refine Go.iconst D (pc' := 19) d12_18 rfl (v := (0 : Int32)) rfl ?_
    refine Go.putF D (pc' := 22) (hw _ (List.mem_of_getElem? (i := 76) rfl)) d12_19 rfl ((Fc.ext E1).other W2 (Or.inr (slot_ne (Or.inl (hw _ (List.mem_of_getElem? (i := 77) rfl))) (Or.inl (hw _ (List.mem_of_getElem? (i := 75) rfl))) (by decide) (t := .byte) (t' := .array .byte) (by decide) (by decide)))) ((E.ext E1).wr W2) (Or.inl (hw _ (List.mem_of_getElem? (i := 77) rfl))) (hw _ (List.mem_of_getElem? (i := 61) rfl)) (ty := .byte) (by decide) rfl rfl g0 ?_
    intro h3 W3
    refine Go.goto D (pc' := 38) d12_22 (by decide) (by decide) ?_
    refine Go.vret D rfl d12_38 (by decide) (by decide) ?_
    have nb : vb ≠ b := own_ne (by omega)
    exact ⟨rfl, rfl, (((Keep.refl _ _).ext E1).wr W2 (Or.inl (by simp))).wr W3 (Or.inl (by simp)), vb, kb, by omega, ((E.ext E1).wr W2).wr W3, ((Fv.ext E1).same W2).other W3 (Or.inr (slot_ne (Or.inl (hw _ (List.mem_of_getElem? (i := 75) rfl))) (Or.inl (hw _ (List.mem_of_getElem? (i := 77) rfl))) (by decide) (t := .array .byte) (t' := .byte) (by decide) (by decide))), ((Fc.ext E1).other W2 (Or.inr (slot_ne (Or.inl (hw _ (List.mem_of_getElem? (i := 77) rfl))) (Or.inl (hw _ (List.mem_of_getElem? (i := 75) rfl))) (by decide) (t := .byte) (t' := .array .byte) (by decide) (by decide)))).same W3, ((Fn.ext E1).other W2 (Or.inr (slot_ne (Or.inl (hw _ (List.mem_of_getElem? (i := 100) rfl))) (Or.inl (hw _ (List.mem_of_getElem? (i := 75) rfl))) (by decide) (t := .int) (t' := .array .byte) (by decide) (by decide)))).other W3 (Or.inr (slot_ne (Or.inl (hw _ (List.mem_of_getElem? (i := 100) rfl))) (Or.inl (hw _ (List.mem_of_getElem? (i := 77) rfl))) (by decide) (t := .int) (t' := .byte) (by decide) (by decide))), ((B1.pad (vs' := List.replicate 16 (.int 0)) (fun i => pad_rep [] (.int 0) 16 i)).other W2 nb).other W3 nb⟩
abbrev y11 : MethodName := ⟨"java/lang/StringBuilder", "<init>", "()V"⟩
theorem d11_0 : decode jdk_67_method_1_code 0 = .ok (.aload_n 0, 1) := by decide +kernel
theorem d11_1 : decode jdk_67_method_1_code 1 = .ok (.bipush 16, 2) := by decide +kernel
theorem d11_3 : decode jdk_67_method_1_code 3 = .ok (.invokespecial 1, 3) := by decide +kernel
theorem d11_6 : decode jdk_67_method_1_code 6 = .ok (.return_, 1) := by decide +kernel
theorem pd11 : parseMethodDescriptor "()V" = some ⟨[], none⟩ := by decide +kernel
theorem pn11 : plainFor y11 = true := by first | exact plainFor_of_name (by first | (simp [plainName, overriddenIn]; done) | decide +kernel) | decide +kernel | rfl
set_option maxRecDepth 65536 in
set_option maxHeartbeats 40000000 in
theorem con_snew (l : Launch) (Z : State) (a0 : Array Value) (hw : ∀ d ∈ tables_1, d.before a0 Z = true) (h0 : Heap) (n0 : Nat) (σ : Sg) (Z0 : n0 ≤ h0.size) (b : Addr) (g0 : n0 ≤ b) (E : Exa Z h0 b "java/lang/StringBuilder") (Fv : Fld Z h0 b "java/lang/AbstractStringBuilder" "value" "[B" .null) (Fc : Fld Z h0 b "java/lang/AbstractStringBuilder" "coder" "B" (.int 0)) (Fn : Fld Z h0 b "java/lang/AbstractStringBuilder" "count" "I" (.int 0)) (cz : Int32) (hcz : ¬ cz = 0) (O2 : Sta Z Z.heap "java/lang/String" "COMPACT_STRINGS" "Z" (.int cz)) :
    Con l Z y11 jdk_67_method_1_code 1 none ({ frames := 2, cells := 1, slots := 16, locals := 30 } : Room) [] #[(.ref b)] σ h0 n0 (fun v h τ => σ = τ ∧ v = none ∧ Keep h0 h [b] ∧ ∃ vb kb, h0.size ≤ vb ∧ SB Z h b vb kb []) := by
  refine Con.of_go pn11 (ls := #[.val (.ref b)]) (fun m => by first | (simp [entryFrame, mkF, argsToLocals, Value.category]; done) | rfl) ?_
  intro κ D
  refine Go.aloadN D (pc' := 1) d11_0 rfl rfl rfl ?_
  refine Go.bipush D (pc' := 3) d11_1 rfl (v := (16 : Int32)) rfl ?_
  refine Go.callI D (argsL := [(.int (16 : Int32))]) (rest := []) (pc' := 6) (ce' := 1) (sl' := 16) (con_anew l Z a0 hw h0 n0 σ Z0 b g0 E Fv Fc Fn cz hcz O2) rfl (hw _ (List.mem_of_getElem? (i := 66) rfl)) (hw _ (List.mem_of_getElem? (i := 67) rfl)) (hw _ (List.mem_of_getElem? (i := 70) rfl)) (hw _ (List.mem_of_getElem? (i := 71) rfl)) (by decide) d11_3 rfl pd12 rfl rfl rfl (by decide) (W := 0) rfl (by decide) (by decide) (by decide) (by decide) (by decide) ?_
  intro v3 h1 σ3 q3
  obtain ⟨rfl, rfl, k1, vb, kb, gvb, S1⟩ := q3
  show Go κ σ h1 1 16 6 #[.val (.ref b)] []
  refine Go.vret D rfl d11_6 (by decide) (by decide) ?_
  exact ⟨rfl, rfl, k1, vb, kb, gvb, S1⟩
abbrev y24 : MethodName := ⟨"java/lang/AbstractStringBuilder", "getValue", "()[B"⟩
theorem d24_0 : decode jdk_68_method_64_code 0 = .ok (.aload_n 0, 1) := by decide +kernel
theorem d24_1 : decode jdk_68_method_64_code 1 = .ok (.getfield 15, 3) := by decide +kernel
theorem d24_4 : decode jdk_68_method_64_code 4 = .ok (.areturn, 1) := by decide +kernel
theorem pd24 : parseMethodDescriptor "()[B" = some ⟨[], (some (.array .byte))⟩ := by decide +kernel
theorem pn24 : plainFor y24 = true := by first | exact plainFor_of_name (by first | (simp [plainName, overriddenIn]; done) | decide +kernel) | decide +kernel | rfl
set_option maxRecDepth 65536 in
set_option maxHeartbeats 40000000 in
theorem con_getV (l : Launch) (Z : State) (a0 : Array Value) (hw : ∀ d ∈ tables_1, d.before a0 Z = true) (h0 : Heap) (n0 : Nat) (σ : Sg) (b vb : Addr) (kb : ClassId) (ts : List Int32) (S : SB Z h0 b vb kb ts) :
    Con l Z y24 jdk_68_method_64_code 1 ((some (.array .byte))) ({ frames := 0, cells := 0, slots := 0, locals := 0 } : Room) [] #[(.ref b)] σ h0 n0 (fun v h τ => h0 = h ∧ σ = τ ∧ v = some (.ref vb)) := by
  refine Con.of_go pn24 (ls := #[.val (.ref b)]) (fun m => by first | (simp [entryFrame, mkF, argsToLocals, Value.category]; done) | rfl) ?_
  intro κ D
  refine Go.aloadN D (pc' := 1) d24_0 rfl rfl rfl ?_
  refine Go.getF D (pc' := 4) (hw _ (List.mem_of_getElem? (i := 74) rfl)) d24_1 rfl S.2.1 ?_
  refine Go.aret D rfl rfl rfl d24_4 (by decide) (by decide) ?_
  exact ⟨rfl, rfl, rfl⟩
abbrev y26 : MethodName := ⟨"java/lang/AbstractStringBuilder", "length", "()I"⟩
theorem d26_0 : decode jdk_68_method_6_code 0 = .ok (.aload_n 0, 1) := by decide +kernel
theorem d26_1 : decode jdk_68_method_6_code 1 = .ok (.getfield 79, 3) := by decide +kernel
theorem d26_4 : decode jdk_68_method_6_code 4 = .ok (.ireturn, 1) := by decide +kernel
theorem pd26 : parseMethodDescriptor "()I" = some ⟨[], (some .int)⟩ := by decide +kernel
theorem pn26 : plainFor y26 = true := by first | exact plainFor_of_name (by first | (simp [plainName, overriddenIn]; done) | decide +kernel) | decide +kernel | rfl
set_option maxRecDepth 65536 in
set_option maxHeartbeats 40000000 in
theorem con_alen (l : Launch) (Z : State) (a0 : Array Value) (hw : ∀ d ∈ tables_1, d.before a0 Z = true) (h0 : Heap) (n0 : Nat) (σ : Sg) (b vb : Addr) (kb : ClassId) (ts : List Int32) (S : SB Z h0 b vb kb ts) :
    Con l Z y26 jdk_68_method_6_code 1 ((some .int)) ({ frames := 0, cells := 0, slots := 0, locals := 0 } : Room) [] #[(.ref b)] σ h0 n0 (fun v h τ => h0 = h ∧ σ = τ ∧ v = some (.int (Int32.ofNat ts.length))) := by
  refine Con.of_go pn26 (ls := #[.val (.ref b)]) (fun m => by first | (simp [entryFrame, mkF, argsToLocals, Value.category]; done) | rfl) ?_
  intro κ D
  refine Go.aloadN D (pc' := 1) d26_0 rfl rfl rfl ?_
  refine Go.getF D (pc' := 4) (hw _ (List.mem_of_getElem? (i := 99) rfl)) d26_1 rfl S.2.2.2.1 ?_
  refine Go.iret D rfl d26_4 (by decide) (by decide) ?_
  exact ⟨rfl, rfl, rfl⟩
abbrev y25 : MethodName := ⟨"java/lang/StringBuilder", "length", "()I"⟩
theorem d25_0 : decode jdk_67_method_93_code 0 = .ok (.aload_n 0, 1) := by decide +kernel
theorem d25_1 : decode jdk_67_method_93_code 1 = .ok (.invokespecial 343, 3) := by decide +kernel
theorem d25_4 : decode jdk_67_method_93_code 4 = .ok (.ireturn, 1) := by decide +kernel
theorem pd25 : parseMethodDescriptor "()I" = some ⟨[], (some .int)⟩ := by decide +kernel
theorem pn25 : plainFor y25 = true := by first | exact plainFor_of_name (by first | (simp [plainName, overriddenIn]; done) | decide +kernel) | decide +kernel | rfl
set_option maxRecDepth 65536 in
set_option maxHeartbeats 40000000 in
theorem con_blen (l : Launch) (Z : State) (a0 : Array Value) (hw : ∀ d ∈ tables_1, d.before a0 Z = true) (h0 : Heap) (n0 : Nat) (σ : Sg) (b vb : Addr) (kb : ClassId) (ts : List Int32) (S : SB Z h0 b vb kb ts) :
    Con l Z y25 jdk_67_method_93_code 1 ((some .int)) ({ frames := 1, cells := 0, slots := 0, locals := 12 } : Room) [] #[(.ref b)] σ h0 n0 (fun v h τ => h0 = h ∧ σ = τ ∧ v = some (.int (Int32.ofNat ts.length))) := by
  refine Con.of_go pn25 (ls := #[.val (.ref b)]) (fun m => by first | (simp [entryFrame, mkF, argsToLocals, Value.category]; done) | rfl) ?_
  intro κ D
  refine Go.aloadN D (pc' := 1) d25_0 rfl rfl rfl ?_
  refine Go.callP D (argsL := []) (rest := []) (pc' := 4) (ce' := 0) (sl' := 0) (con_alen l Z a0 hw h0 n0 σ b vb kb ts S) (by decide) (hw _ (List.mem_of_getElem? (i := 151) rfl)) (sameOf (by decide) (hw _ (List.mem_of_getElem? (i := 147) rfl)) (hw _ (List.mem_of_getElem? (i := 104) rfl)) rfl) (hw _ (List.mem_of_getElem? (i := 147) rfl)) (hw _ (List.mem_of_getElem? (i := 86) rfl)) (hw _ (List.mem_of_getElem? (i := 70) rfl)) (hw _ (List.mem_of_getElem? (i := 152) rfl)) (Ins.self S.1) d25_1 rfl pd26 rfl rfl rfl (by decide) (W := 0) rfl (by decide) (by decide) (by decide) (by decide) (by decide) ?_
  intro v1 h1 σ1 q1
  obtain ⟨rfl, rfl, rfl⟩ := q1
  show Go κ σ h0 0 0 4 #[.val (.ref b)] [(.int (Int32.ofNat ts.length))]
  refine Go.iret D rfl d25_4 (by decide) (by decide) ?_
  exact ⟨rfl, rfl, rfl⟩
abbrev y27 : MethodName := ⟨"java/lang/AbstractStringBuilder", "isLatin1", "()Z"⟩
theorem d27_0 : decode jdk_68_method_68_code 0 = .ok (.getstatic 18, 3) := by decide +kernel
theorem d27_3 : decode jdk_68_method_68_code 3 = .ok (.ifCond .eq 14, 3) := by decide +kernel
theorem d27_6 : decode jdk_68_method_68_code 6 = .ok (.aload_n 0, 1) := by decide +kernel
theorem d27_7 : decode jdk_68_method_68_code 7 = .ok (.getfield 22, 3) := by decide +kernel
theorem d27_10 : decode jdk_68_method_68_code 10 = .ok (.ifCond .ne 7, 3) := by decide +kernel
theorem d27_13 : decode jdk_68_method_68_code 13 = .ok (.iconst 1, 1) := by decide +kernel
theorem d27_14 : decode jdk_68_method_68_code 14 = .ok (.goto 4, 3) := by decide +kernel
theorem d27_17 : decode jdk_68_method_68_code 17 = .ok (.iconst 0, 1) := by decide +kernel
theorem d27_18 : decode jdk_68_method_68_code 18 = .ok (.ireturn, 1) := by decide +kernel
theorem pd27 : parseMethodDescriptor "()Z" = some ⟨[], (some .boolean)⟩ := by decide +kernel
theorem pn27 : plainFor y27 = true := by first | exact plainFor_of_name (by first | (simp [plainName, overriddenIn]; done) | decide +kernel) | decide +kernel | rfl
set_option maxRecDepth 65536 in
set_option maxHeartbeats 40000000 in
theorem con_aisl (l : Launch) (Z : State) (a0 : Array Value) (hw : ∀ d ∈ tables_1, d.before a0 Z = true) (h0 : Heap) (n0 : Nat) (σ : Sg) (b vb : Addr) (kb : ClassId) (ts : List Int32) (S : SB Z h0 b vb kb ts) (cz : Int32) (hcz : ¬ cz = 0) (O2 : Sta Z Z.heap "java/lang/String" "COMPACT_STRINGS" "Z" (.int cz)) :
    Con l Z y27 jdk_68_method_68_code 1 ((some .boolean)) ({ frames := 0, cells := 0, slots := 0, locals := 0 } : Room) [] #[(.ref b)] σ h0 n0 (fun v h τ => h0 = h ∧ σ = τ ∧ v = some (.int 1)) := by
  refine Con.of_go pn27 (ls := #[.val (.ref b)]) (fun m => by first | (simp [entryFrame, mkF, argsToLocals, Value.category]; done) | rfl) ?_
  intro κ D
  refine Go.getS D (pc' := 3) (hw _ (List.mem_of_getElem? (i := 73) rfl)) d27_0 rfl O2 ?_
  refine Go.ifc D (pc' := 17) (pc2 := 6) d27_3 (by decide) (by decide) rfl ?_ ?_
  · intro (hc3 : cz = 0)
    exact absurd hc3 hcz
  · intro (hc3 : ¬ cz = 0)
    refine Go.aloadN D (pc' := 7) d27_6 rfl rfl rfl ?_
    refine Go.getF D (pc' := 10) (hw _ (List.mem_of_getElem? (i := 76) rfl)) d27_7 rfl S.2.2.1 ?_
    refine Go.ifc D (pc' := 17) (pc2 := 13) d27_10 (by decide) (by decide) rfl (fun (hc : ¬ (0 : Int32) = 0) => absurd hc (by decide)) (fun _ => ?_)
    refine Go.iconst D (pc' := 14) d27_13 rfl (v := (1 : Int32)) rfl ?_
    refine Go.goto D (pc' := 18) d27_14 (by decide) (by decide) ?_
    refine Go.zret D rfl rfl d27_18 (by decide) (by decide) ?_
    exact ⟨rfl, rfl, rfl⟩
abbrev y30 : MethodName := ⟨"java/util/Arrays", "checkLength", "(II)V"⟩
theorem d30_0 : decode jdk_65_method_131_code 0 = .ok (.iload_n 1, 1) := by decide +kernel
theorem d30_1 : decode jdk_65_method_131_code 1 = .ok (.iload_n 0, 1) := by decide +kernel
theorem d30_2 : decode jdk_65_method_131_code 2 = .ok (.if_icmp .ge 35, 3) := by decide +kernel
theorem d30_37 : decode jdk_65_method_131_code 37 = .ok (.return_, 1) := by decide +kernel
theorem pd30 : parseMethodDescriptor "(II)V" = some ⟨[.int, .int], none⟩ := by decide +kernel
theorem pn30 : plainFor y30 = true := by first | exact plainFor_of_name (by first | (simp [plainName, overriddenIn]; done) | decide +kernel) | decide +kernel | rfl
set_option maxRecDepth 65536 in
set_option maxHeartbeats 40000000 in
theorem con_chkl (l : Launch) (Z : State) (a0 : Array Value) (hw : ∀ d ∈ tables_1, d.before a0 Z = true) (h0 : Heap) (n0 : Nat) (σ : Sg) (n : Nat) (hn : n ≤ 16) :
    Con l Z y30 jdk_65_method_131_code 2 none ({ frames := 0, cells := 0, slots := 0, locals := 0 } : Room) [] #[(.int (0 : Int32)), (.int (Int32.ofNat n))] σ h0 n0 (fun v h τ => h0 = h ∧ σ = τ ∧ v = none) := by
  refine Con.of_go pn30 (ls := #[.val (.int (0 : Int32)), .val (.int (Int32.ofNat n))]) (fun m => by first | (simp [entryFrame, mkF, argsToLocals, Value.category]; done) | rfl) ?_
  intro κ D
  refine Go.iloadN D (pc' := 1) d30_0 rfl rfl ?_
  refine Go.iloadN D (pc' := 2) d30_1 rfl rfl ?_
  refine Go.icmp D (pc' := 37) (pc2 := 5) d30_2 (by decide) (by decide) rfl ?_ ?_
  · intro (hc2 : ¬ (Int32.ofNat n) < (0 : Int32))
    refine Go.vret D rfl d30_37 (by decide) (by decide) ?_
    exact ⟨rfl, rfl, rfl⟩
  · intro (hc2 : (Int32.ofNat n) < (0 : Int32))
    exact absurd hc2 (own_nn (by omega))
abbrev y31 : MethodName := ⟨"java/lang/Math", "min", "(II)I"⟩
theorem d31_0 : decode jdk_29_method_69_code 0 = .ok (.iload_n 0, 1) := by decide +kernel
theorem d31_1 : decode jdk_29_method_69_code 1 = .ok (.iload_n 1, 1) := by decide +kernel
theorem d31_2 : decode jdk_29_method_69_code 2 = .ok (.if_icmp .gt 7, 3) := by decide +kernel
theorem d31_5 : decode jdk_29_method_69_code 5 = .ok (.iload_n 0, 1) := by decide +kernel
theorem d31_6 : decode jdk_29_method_69_code 6 = .ok (.goto 4, 3) := by decide +kernel
theorem d31_9 : decode jdk_29_method_69_code 9 = .ok (.iload_n 1, 1) := by decide +kernel
theorem d31_10 : decode jdk_29_method_69_code 10 = .ok (.ireturn, 1) := by decide +kernel
theorem pd31 : parseMethodDescriptor "(II)I" = some ⟨[.int, .int], (some .int)⟩ := by decide +kernel
theorem pn31 : plainFor y31 = true := by first | exact plainFor_of_name (by first | (simp [plainName, overriddenIn]; done) | decide +kernel) | decide +kernel | rfl
set_option maxRecDepth 65536 in
set_option maxHeartbeats 40000000 in
theorem con_min (l : Launch) (Z : State) (a0 : Array Value) (hw : ∀ d ∈ tables_1, d.before a0 Z = true) (h0 : Heap) (n0 : Nat) (σ : Sg) (x z : Int32) :
    Con l Z y31 jdk_29_method_69_code 2 ((some .int)) ({ frames := 0, cells := 0, slots := 0, locals := 0 } : Room) [] #[(.int x), (.int z)] σ h0 n0 (fun v h τ => h0 = h ∧ σ = τ ∧ ∃ r, v = some (.int r) ∧ ((z < x ∧ r = z) ∨ (¬ z < x ∧ r = x))) := by
  refine Con.of_go pn31 (ls := #[.val (.int x), .val (.int z)]) (fun m => by first | (simp [entryFrame, mkF, argsToLocals, Value.category]; done) | rfl) ?_
  intro κ D
  refine Go.iloadN D (pc' := 1) d31_0 rfl rfl ?_
  refine Go.iloadN D (pc' := 2) d31_1 rfl rfl ?_
  refine Go.icmp D (pc' := 9) (pc2 := 5) d31_2 (by decide) (by decide) rfl ?_ ?_
  · intro (hc2 : z < x)
    refine Go.iloadN D (pc' := 10) d31_9 rfl rfl ?_
    refine Go.iret D rfl d31_10 (by decide) (by decide) ?_
    exact ⟨rfl, rfl, _, rfl, Or.inl ⟨hc2, rfl⟩⟩
  · intro (hc2 : ¬ z < x)
    refine Go.iloadN D (pc' := 6) d31_5 rfl rfl ?_
    refine Go.goto D (pc' := 10) d31_6 (by decide) (by decide) ?_
    refine Go.iret D rfl d31_10 (by decide) (by decide) ?_
    exact ⟨rfl, rfl, _, rfl, Or.inr ⟨hc2, rfl⟩⟩
abbrev y29 : MethodName := ⟨"java/util/Arrays", "copyOfRangeByte", "([BII)[B"⟩
theorem d29_0 : decode jdk_65_method_133_code 0 = .ok (.iload_n 1, 1) := by decide +kernel
theorem d29_1 : decode jdk_65_method_133_code 1 = .ok (.iload_n 2, 1) := by decide +kernel
theorem d29_2 : decode jdk_65_method_133_code 2 = .ok (.invokestatic 343, 3) := by decide +kernel
theorem d29_5 : decode jdk_65_method_133_code 5 = .ok (.iload_n 2, 1) := by decide +kernel
theorem d29_6 : decode jdk_65_method_133_code 6 = .ok (.iload_n 1, 1) := by decide +kernel
theorem d29_7 : decode jdk_65_method_133_code 7 = .ok (.isub, 1) := by decide +kernel
theorem d29_8 : decode jdk_65_method_133_code 8 = .ok (.istore_n 3, 1) := by decide +kernel
theorem d29_9 : decode jdk_65_method_133_code 9 = .ok (.iload_n 3, 1) := by decide +kernel
theorem d29_10 : decode jdk_65_method_133_code 10 = .ok (.newarray .byte, 2) := by decide +kernel
theorem d29_12 : decode jdk_65_method_133_code 12 = .ok (.astore 4, 2) := by decide +kernel
theorem d29_14 : decode jdk_65_method_133_code 14 = .ok (.aload_n 0, 1) := by decide +kernel
theorem d29_15 : decode jdk_65_method_133_code 15 = .ok (.iload_n 1, 1) := by decide +kernel
theorem d29_16 : decode jdk_65_method_133_code 16 = .ok (.aload 4, 2) := by decide +kernel
theorem d29_18 : decode jdk_65_method_133_code 18 = .ok (.iconst 0, 1) := by decide +kernel
theorem d29_19 : decode jdk_65_method_133_code 19 = .ok (.aload_n 0, 1) := by decide +kernel
theorem d29_20 : decode jdk_65_method_133_code 20 = .ok (.arraylength, 1) := by decide +kernel
theorem d29_21 : decode jdk_65_method_133_code 21 = .ok (.iload_n 1, 1) := by decide +kernel
theorem d29_22 : decode jdk_65_method_133_code 22 = .ok (.isub, 1) := by decide +kernel
theorem d29_23 : decode jdk_65_method_133_code 23 = .ok (.iload_n 3, 1) := by decide +kernel
theorem d29_24 : decode jdk_65_method_133_code 24 = .ok (.invokestatic 304, 3) := by decide +kernel
theorem d29_27 : decode jdk_65_method_133_code 27 = .ok (.invokestatic 150, 3) := by decide +kernel
theorem d29_30 : decode jdk_65_method_133_code 30 = .ok (.aload 4, 2) := by decide +kernel
theorem d29_32 : decode jdk_65_method_133_code 32 = .ok (.areturn, 1) := by decide +kernel
theorem pd29 : parseMethodDescriptor "([BII)[B" = some ⟨[(.array .byte), .int, .int], (some (.array .byte))⟩ := by decide +kernel
theorem pn29 : plainFor y29 = true := by first | exact plainFor_of_name (by first | (simp [plainName, overriddenIn]; done) | decide +kernel) | decide +kernel | rfl
set_option maxRecDepth 65536 in
set_option maxHeartbeats 40000000 in
theorem con_crb (l : Launch) (Z : State) (a0 : Array Value) (hw : ∀ d ∈ tables_1, d.before a0 Z = true) (h0 : Heap) (n0 : Nat) (σ : Sg) (Z0 : n0 ≤ h0.size) (a : Addr) (k : ClassId) (vs : List Value) (V : Arv Z h0 a k .byte (16 : Int32) vs (.int 0)) (n : Nat) (hn : n < 16) (hv : n ≤ vs.length) :
    Con l Z y29 jdk_65_method_133_code 5 ((some (.array .byte))) ({ frames := 1, cells := 1, slots := 16, locals := 20 } : Room) [] #[(.ref a), (.int (0 : Int32)), (.int (Int32.ofNat n))] σ h0 n0 (fun v h τ => σ = τ ∧ ∃ d kd, v = some (.ref d) ∧ h0.size ≤ d ∧ Ext h0 h ∧ Arv Z h d kd .byte (Int32.ofNat n) (vs.take n) (.int 0)) := by
  refine Con.of_go pn29 (ls := #[.val (.ref a), .val (.int (0 : Int32)), .val (.int (Int32.ofNat n)), .unset, .unset]) (fun m => by first | (simp [entryFrame, mkF, argsToLocals, Value.category]; done) | rfl) ?_
  intro κ D
  refine Go.iloadN D (pc' := 1) d29_0 rfl rfl ?_
  refine Go.iloadN D (pc' := 2) d29_1 rfl rfl ?_
  refine Go.callS D (argsL := [(.int (0 : Int32)), (.int (Int32.ofNat n))]) (rest := []) (pc' := 5) (ce' := 0) (sl' := 0) (con_chkl l Z a0 hw h0 n0 σ n (by omega)) (hw _ (List.mem_of_getElem? (i := 165) rfl)) (hw _ (List.mem_of_getElem? (i := 166) rfl)) (hw _ (List.mem_of_getElem? (i := 160) rfl)) (hw _ (List.mem_of_getElem? (i := 167) rfl)) (by decide) d29_2 rfl pd30 rfl rfl rfl (by decide) (W := 0) rfl (by decide) (by decide) (by decide) (by decide) (by decide) ?_
  intro v2 h2 σ2 q2
  obtain ⟨rfl, rfl, rfl⟩ := q2
  show Go κ σ h0 0 0 5 #[.val (.ref a), .val (.int (0 : Int32)), .val (.int (Int32.ofNat n)), .unset, .unset] []
  refine Go.iloadN D (pc' := 6) d29_5 rfl rfl ?_
  refine Go.iloadN D (pc' := 7) d29_6 rfl rfl ?_
  refine Go.isub D (pc' := 8) d29_7 rfl  ?_
  rw [Int32.sub_zero]
  refine Go.istoreN D (pc' := 9) d29_8 rfl (ls' := #[.val (.ref a), .val (.int (0 : Int32)), .val (.int (Int32.ofNat n)), .val (.int (Int32.ofNat n)), .unset]) rfl ?_
  refine Go.iloadN D (pc' := 10) d29_9 rfl rfl ?_
  refine Go.newP D (pc' := 12) (aty := .byte) (cap := 16) (ce' := 1) (sl' := 16) (hw _ (List.mem_of_getElem? (i := 23) rfl)) d29_10 rfl (own_nn (by omega)) (by rw [own_tn (by omega)]; omega) (by decide) rfl rfl (by decide) (by decide) ?_
  intro h1 d kd gd E1 D1
  refine Go.astore D (pc' := 14) d29_12 rfl rfl (ls' := #[.val (.ref a), .val (.int (0 : Int32)), .val (.int (Int32.ofNat n)), .val (.int (Int32.ofNat n)), .val (.ref d)]) rfl ?_
  refine Go.aloadN D (pc' := 15) d29_14 rfl rfl rfl ?_
  refine Go.iloadN D (pc' := 16) d29_15 rfl rfl ?_
  refine Go.aload D (pc' := 18) d29_16 rfl rfl rfl ?_
  refine Go.iconst D (pc' := 19) d29_18 rfl (v := (0 : Int32)) rfl ?_
  refine Go.aloadN D (pc' := 20) d29_19 rfl rfl rfl ?_
  refine Go.alen D (pc' := 21) d29_20 rfl (V.ext E1) ?_
  refine Go.iloadN D (pc' := 22) d29_21 rfl rfl ?_
  refine Go.isub D (pc' := 23) d29_22 rfl  ?_
  rw [Int32.sub_zero]
  refine Go.iloadN D (pc' := 24) d29_23 rfl rfl ?_
  refine Go.callS D (argsL := [(.int (16 : Int32)), (.int (Int32.ofNat n))]) (rest := [(.int (0 : Int32)), (.ref d), (.int (0 : Int32)), (.ref a)]) (pc' := 27) (ce' := 1) (sl' := 16) (con_min l Z a0 hw h1 n0 σ 16 (Int32.ofNat n)) (hw _ (List.mem_of_getElem? (i := 168) rfl)) (hw _ (List.mem_of_getElem? (i := 169) rfl)) (hw _ (List.mem_of_getElem? (i := 170) rfl)) (hw _ (List.mem_of_getElem? (i := 171) rfl)) (by decide) d29_24 rfl pd31 rfl rfl rfl (by decide) (W := 4) rfl (by decide) (by decide) (by decide) (by decide) (by decide) ?_
  intro v24 h24 σ24 q24
  obtain ⟨rfl, rfl, r, rfl, hr⟩ := q24
  obtain rfl : r = Int32.ofNat n := hr.elim (fun z => z.2) (fun z => absurd ((own_lt (j := 16) (by omega) (by omega)).mpr hn) z.1)
  show Go κ σ h1 1 16 27 #[.val (.ref a), .val (.int (0 : Int32)), .val (.int (Int32.ofNat n)), .val (.int (Int32.ofNat n)), .val (.ref d)] [(.int (Int32.ofNat n)), (.int (0 : Int32)), (.ref d), (.int (0 : Int32)), (.ref a)]
  refine Go.acopy D (pc' := 30) (sN := 0) (dN := 0) (nN := n) (hw _ (List.mem_of_getElem? (i := 172) rfl)) (hw _ (List.mem_of_getElem? (i := 125) rfl)) (hw _ (List.mem_of_getElem? (i := 123) rfl)) (hw _ (List.mem_of_getElem? (i := 124) rfl)) d29_27 rfl (V.ext E1) (D1.pad (vs' := List.replicate n (.int 0)) (fun i => pad_rep [] (.int 0) n i)) rfl (by decide) (by decide) (own_nn (by omega)) rfl rfl (own_tn (by omega)) (by rw [show (16 : Int32).toNatClampNeg = 16 from rfl]; omega) (by rw [own_tn (by omega)]; omega) (by rw [List.length_replicate]; omega) (by omega) rfl (by decide) (W := 0) rfl (by decide) ?_
  intro h3 K3 D3
  refine Go.aload D (pc' := 32) d29_30 rfl rfl rfl ?_
  refine Go.aret D rfl rfl rfl d29_32 (by decide) (by decide) ?_
  exact ⟨rfl, d, kd, rfl, by omega, E1.keepN K3 (by omega), by rw [← cp_cat hv]; exact D3⟩
abbrev y28 : MethodName := ⟨"java/util/Arrays", "copyOfRange", "([BII)[B"⟩
theorem d28_0 : decode jdk_65_method_132_code 0 = .ok (.iload_n 1, 1) := by decide +kernel
theorem d28_1 : decode jdk_65_method_132_code 1 = .ok (.ifCond .ne 9, 3) := by decide +kernel
theorem d28_4 : decode jdk_65_method_132_code 4 = .ok (.iload_n 2, 1) := by decide +kernel
theorem d28_5 : decode jdk_65_method_132_code 5 = .ok (.aload_n 0, 1) := by decide +kernel
theorem d28_6 : decode jdk_65_method_132_code 6 = .ok (.arraylength, 1) := by decide +kernel
theorem d28_7 : decode jdk_65_method_132_code 7 = .ok (.if_icmp .eq 10, 3) := by decide +kernel
theorem d28_10 : decode jdk_65_method_132_code 10 = .ok (.aload_n 0, 1) := by decide +kernel
theorem d28_11 : decode jdk_65_method_132_code 11 = .ok (.iload_n 1, 1) := by decide +kernel
theorem d28_12 : decode jdk_65_method_132_code 12 = .ok (.iload_n 2, 1) := by decide +kernel
theorem d28_13 : decode jdk_65_method_132_code 13 = .ok (.invokestatic 339, 3) := by decide +kernel
theorem d28_16 : decode jdk_65_method_132_code 16 = .ok (.areturn, 1) := by decide +kernel
theorem d28_17 : decode jdk_65_method_132_code 17 = .ok (.aload_n 0, 1) := by decide +kernel
theorem d28_18 : decode jdk_65_method_132_code 18 = .ok (.invokevirtual 310, 3) := by decide +kernel
theorem d28_21 : decode jdk_65_method_132_code 21 = .ok (.checkcast 311, 3) := by decide +kernel
theorem d28_24 : decode jdk_65_method_132_code 24 = .ok (.areturn, 1) := by decide +kernel
theorem pd28 : parseMethodDescriptor "([BII)[B" = some ⟨[(.array .byte), .int, .int], (some (.array .byte))⟩ := by decide +kernel
theorem pn28 : plainFor y28 = true := by first | exact plainFor_of_name (by first | (simp [plainName, overriddenIn]; done) | decide +kernel) | decide +kernel | rfl
set_option maxRecDepth 65536 in
set_option maxHeartbeats 40000000 in
theorem con_cr (l : Launch) (Z : State) (a0 : Array Value) (hw : ∀ d ∈ tables_1, d.before a0 Z = true) (h0 : Heap) (n0 : Nat) (σ : Sg) (Z0 : n0 ≤ h0.size) (a : Addr) (k : ClassId) (vs : List Value) (V : Arv Z h0 a k .byte (16 : Int32) vs (.int 0)) (n : Nat) (hn : n < 16) (hv : n ≤ vs.length) :
    Con l Z y28 jdk_65_method_132_code 3 ((some (.array .byte))) ({ frames := 2, cells := 1, slots := 16, locals := 40 } : Room) [] #[(.ref a), (.int (0 : Int32)), (.int (Int32.ofNat n))] σ h0 n0 (fun v h τ => σ = τ ∧ ∃ d kd, v = some (.ref d) ∧ h0.size ≤ d ∧ Ext h0 h ∧ Arv Z h d kd .byte (Int32.ofNat n) (vs.take n) (.int 0)) := by
  refine Con.of_go pn28 (ls := #[.val (.ref a), .val (.int (0 : Int32)), .val (.int (Int32.ofNat n))]) (fun m => by first | (simp [entryFrame, mkF, argsToLocals, Value.category]; done) | rfl) ?_
  intro κ D
  refine Go.iloadN D (pc' := 1) d28_0 rfl rfl ?_
  refine Go.ifc D (pc' := 10) (pc2 := 4) d28_1 (by decide) (by decide) rfl (fun (hc : ¬ (0 : Int32) = 0) => absurd hc (by decide)) (fun _ => ?_)
  refine Go.iloadN D (pc' := 5) d28_4 rfl rfl ?_
  refine Go.aloadN D (pc' := 6) d28_5 rfl rfl rfl ?_
  refine Go.alen D (pc' := 7) d28_6 rfl V ?_
  refine Go.icmp D (pc' := 17) (pc2 := 10) d28_7 (by decide) (by decide) rfl ?_ ?_
  · intro (hc7 : (Int32.ofNat n) = (16 : Int32))
    exact absurd (own_inj (j := 16) (by omega) (by omega) hc7) (by omega)
  · intro (hc7 : ¬ (Int32.ofNat n) = (16 : Int32))
    refine Go.aloadN D (pc' := 11) d28_10 rfl rfl rfl ?_
    refine Go.iloadN D (pc' := 12) d28_11 rfl rfl ?_
    refine Go.iloadN D (pc' := 13) d28_12 rfl rfl ?_
    refine Go.callS D (argsL := [(.ref a), (.int (0 : Int32)), (.int (Int32.ofNat n))]) (rest := []) (pc' := 16) (ce' := 1) (sl' := 16) (con_crb l Z a0 hw h0 n0 σ Z0 a k vs V n hn hv) (hw _ (List.mem_of_getElem? (i := 162) rfl)) (hw _ (List.mem_of_getElem? (i := 163) rfl)) (hw _ (List.mem_of_getElem? (i := 160) rfl)) (hw _ (List.mem_of_getElem? (i := 164) rfl)) (by decide) d28_13 rfl pd29 rfl rfl rfl (by decide) (W := 0) rfl (by decide) (by decide) (by decide) (by decide) (by decide) ?_
    intro v13 h1 σ13 q13
    obtain ⟨rfl, d, kd, rfl, gd, E1, D1⟩ := q13
    show Go κ σ h1 1 16 16 #[.val (.ref a), .val (.int (0 : Int32)), .val (.int (Int32.ofNat n))] [(.ref d)]
    refine Go.aret D rfl rfl rfl d28_16 (by decide) (by decide) ?_
    exact ⟨rfl, d, kd, rfl, gd, E1, D1⟩
abbrev y23 : MethodName := ⟨"java/lang/String", "<init>", "(Ljava/lang/AbstractStringBuilder;Ljava/lang/Void;)V"⟩
theorem d23_0 : decode jdk_42_method_150_code 0 = .ok (.aload_n 0, 1) := by decide +kernel
theorem d23_1 : decode jdk_42_method_150_code 1 = .ok (.invokespecial 1, 3) := by decide +kernel
theorem d23_4 : decode jdk_42_method_150_code 4 = .ok (.aload_n 1, 1) := by decide +kernel
theorem d23_5 : decode jdk_42_method_150_code 5 = .ok (.invokevirtual 552, 3) := by decide +kernel
theorem d23_8 : decode jdk_42_method_150_code 8 = .ok (.astore_n 3, 1) := by decide +kernel
theorem d23_9 : decode jdk_42_method_150_code 9 = .ok (.aload_n 1, 1) := by decide +kernel
theorem d23_10 : decode jdk_42_method_150_code 10 = .ok (.invokevirtual 549, 3) := by decide +kernel
theorem d23_13 : decode jdk_42_method_150_code 13 = .ok (.istore 4, 2) := by decide +kernel
theorem d23_15 : decode jdk_42_method_150_code 15 = .ok (.aload_n 1, 1) := by decide +kernel
theorem d23_16 : decode jdk_42_method_150_code 16 = .ok (.invokevirtual 1047, 3) := by decide +kernel
theorem d23_19 : decode jdk_42_method_150_code 19 = .ok (.ifCond .eq 22, 3) := by decide +kernel
theorem d23_22 : decode jdk_42_method_150_code 22 = .ok (.aload_n 0, 1) := by decide +kernel
theorem d23_23 : decode jdk_42_method_150_code 23 = .ok (.iconst 0, 1) := by decide +kernel
theorem d23_24 : decode jdk_42_method_150_code 24 = .ok (.putfield 15, 3) := by decide +kernel
theorem d23_27 : decode jdk_42_method_150_code 27 = .ok (.aload_n 0, 1) := by decide +kernel
theorem d23_28 : decode jdk_42_method_150_code 28 = .ok (.aload_n 3, 1) := by decide +kernel
theorem d23_29 : decode jdk_42_method_150_code 29 = .ok (.iconst 0, 1) := by decide +kernel
theorem d23_30 : decode jdk_42_method_150_code 30 = .ok (.iload 4, 2) := by decide +kernel
theorem d23_32 : decode jdk_42_method_150_code 32 = .ok (.invokestatic 54, 3) := by decide +kernel
theorem d23_35 : decode jdk_42_method_150_code 35 = .ok (.putfield 9, 3) := by decide +kernel
theorem d23_38 : decode jdk_42_method_150_code 38 = .ok (.goto 59, 3) := by decide +kernel
theorem d23_41 : decode jdk_42_method_150_code 41 = .ok (.getstatic 38, 3) := by decide +kernel
theorem d23_44 : decode jdk_42_method_150_code 44 = .ok (.ifCond .eq 35, 3) := by decide +kernel
theorem d23_47 : decode jdk_42_method_150_code 47 = .ok (.aload_n 1, 1) := by decide +kernel
theorem d23_48 : decode jdk_42_method_150_code 48 = .ok (.getfield 1048, 3) := by decide +kernel
theorem d23_51 : decode jdk_42_method_150_code 51 = .ok (.ifCond .eq 28, 3) := by decide +kernel
theorem d23_54 : decode jdk_42_method_150_code 54 = .ok (.aload_n 0, 1) := by decide +kernel
theorem d23_55 : decode jdk_42_method_150_code 55 = .ok (.aload_n 3, 1) := by decide +kernel
theorem d23_56 : decode jdk_42_method_150_code 56 = .ok (.iconst 0, 1) := by decide +kernel
theorem d23_57 : decode jdk_42_method_150_code 57 = .ok (.iload 4, 2) := by decide +kernel
theorem d23_59 : decode jdk_42_method_150_code 59 = .ok (.invokestatic 1051, 3) := by decide +kernel
theorem d23_62 : decode jdk_42_method_150_code 62 = .ok (.putfield 9, 3) := by decide +kernel
theorem d23_65 : decode jdk_42_method_150_code 65 = .ok (.aload_n 0, 1) := by decide +kernel
theorem d23_66 : decode jdk_42_method_150_code 66 = .ok (.aload_n 0, 1) := by decide +kernel
theorem d23_67 : decode jdk_42_method_150_code 67 = .ok (.getfield 9, 3) := by decide +kernel
theorem d23_70 : decode jdk_42_method_150_code 70 = .ok (.iload 4, 2) := by decide +kernel
theorem d23_72 : decode jdk_42_method_150_code 72 = .ok (.invokestatic 47, 3) := by decide +kernel
theorem d23_75 : decode jdk_42_method_150_code 75 = .ok (.putfield 15, 3) := by decide +kernel
theorem d23_78 : decode jdk_42_method_150_code 78 = .ok (.return_, 1) := by decide +kernel
theorem d23_79 : decode jdk_42_method_150_code 79 = .ok (.aload_n 0, 1) := by decide +kernel
theorem d23_80 : decode jdk_42_method_150_code 80 = .ok (.iconst 1, 1) := by decide +kernel
theorem d23_81 : decode jdk_42_method_150_code 81 = .ok (.putfield 15, 3) := by decide +kernel
theorem d23_84 : decode jdk_42_method_150_code 84 = .ok (.aload_n 0, 1) := by decide +kernel
theorem d23_85 : decode jdk_42_method_150_code 85 = .ok (.aload_n 3, 1) := by decide +kernel
theorem d23_86 : decode jdk_42_method_150_code 86 = .ok (.iconst 0, 1) := by decide +kernel
theorem d23_87 : decode jdk_42_method_150_code 87 = .ok (.iload 4, 2) := by decide +kernel
theorem d23_89 : decode jdk_42_method_150_code 89 = .ok (.iconst 1, 1) := by decide +kernel
theorem d23_90 : decode jdk_42_method_150_code 90 = .ok (.ishl, 1) := by decide +kernel
theorem d23_91 : decode jdk_42_method_150_code 91 = .ok (.invokestatic 54, 3) := by decide +kernel
theorem d23_94 : decode jdk_42_method_150_code 94 = .ok (.putfield 9, 3) := by decide +kernel
theorem d23_97 : decode jdk_42_method_150_code 97 = .ok (.return_, 1) := by decide +kernel
theorem pd23 : parseMethodDescriptor "(Ljava/lang/AbstractStringBuilder;Ljava/lang/Void;)V" = some ⟨[(.object "java/lang/AbstractStringBuilder"), (.object "java/lang/Void")], none⟩ := by decide +kernel
theorem pn23 : plainFor y23 = true := by first | exact plainFor_of_name (by first | (simp [plainName, overriddenIn]; done) | decide +kernel) | decide +kernel | rfl
set_option maxRecDepth 65536 in
set_option maxHeartbeats 40000000 in
theorem con_s3 (l : Launch) (Z : State) (a0 : Array Value) (hw : ∀ d ∈ tables_1, d.before a0 Z = true) (h0 : Heap) (n0 : Nat) (σ : Sg) (Z0 : n0 ≤ h0.size) (s : Addr) (g0 : n0 ≤ s) (E : Exa Z h0 s "java/lang/String") (Fv : Fld Z h0 s "java/lang/String" "value" "[B" .null) (Fc : Fld Z h0 s "java/lang/String" "coder" "B" (.int 0)) (b vb : Addr) (kb : ClassId) (ts : List Int32) (S : SB Z h0 b vb kb ts) (hs : ts.length < 16) (hp : Lat ts) (cz : Int32) (hcz : ¬ cz = 0) (O2 : Sta Z Z.heap "java/lang/String" "COMPACT_STRINGS" "Z" (.int cz)) :
    Con l Z y23 jdk_42_method_150_code 5 none ({ frames := 3, cells := 1, slots := 16, locals := 60 } : Room) [] #[(.ref s), (.ref b), (.null)] σ h0 n0 (fun v h τ => σ = τ ∧ v = none ∧ Keep h0 h [s] ∧ Str Z h s ts) := by
  refine Con.of_go pn23 (ls := #[.val (.ref s), .val (.ref b), .val (.null), .unset, .unset]) (fun m => by first | (simp [entryFrame, mkF, argsToLocals, Value.category]; done) | rfl) ?_
  intro κ D
  have ls0 := own_ltn E.lt
  have nv : vb ≠ s := Ne.symm (Exa.neArv E S.2.2.2.2 (hw _ (List.mem_of_getElem? (i := 1) rfl)))
  refine Go.aloadN D (pc' := 1) d23_0 rfl rfl rfl ?_
  refine Go.initO D (pc' := 4) (hw _ (List.mem_of_getElem? (i := 15) rfl)) (hw _ (List.mem_of_getElem? (i := 16) rfl)) (hw _ (List.mem_of_getElem? (i := 17) rfl)) d23_1 rfl rfl (by decide) (W := 0) rfl (by decide) ?_
  refine Go.aloadN D (pc' := 5) d23_4 rfl rfl rfl ?_
  refine Go.callV D (argsL := []) (rest := []) (pc' := 8) (ce' := 0) (sl' := 0) (con_getV l Z a0 hw h0 n0 σ b vb kb ts S) (hw _ (List.mem_of_getElem? (i := 140) rfl)) (hw _ (List.mem_of_getElem? (i := 141) rfl)) (hw _ (List.mem_of_getElem? (i := 143) rfl)) (hw _ (List.mem_of_getElem? (i := 142) rfl)) (hw _ (List.mem_of_getElem? (i := 70) rfl)) (hw _ (List.mem_of_getElem? (i := 144) rfl)) (nfS (hw _ (List.mem_of_getElem? (i := 143) rfl))) (by decide) S.1 d23_5 rfl pd24 rfl rfl rfl (by decide) (W := 0) rfl (by decide) (by decide) (by decide) (by decide) (by decide) ?_
  intro v5 h5 σ5 q5
  obtain ⟨rfl, rfl, rfl⟩ := q5
  show Go κ σ h0 0 0 8 #[.val (.ref s), .val (.ref b), .val (.null), .unset, .unset] [(.ref vb)]
  refine Go.astoreN D (pc' := 9) d23_8 rfl rfl (ls' := #[.val (.ref s), .val (.ref b), .val (.null), .val (.ref vb), .unset]) rfl ?_
  refine Go.aloadN D (pc' := 10) d23_9 rfl rfl rfl ?_
  refine Go.callV D (argsL := []) (rest := []) (pc' := 13) (ce' := 0) (sl' := 0) (con_blen l Z a0 hw h0 n0 σ b vb kb ts S) (hw _ (List.mem_of_getElem? (i := 145) rfl)) (hw _ (List.mem_of_getElem? (i := 146) rfl)) (hw _ (List.mem_of_getElem? (i := 148) rfl)) (hw _ (List.mem_of_getElem? (i := 149) rfl)) (hw _ (List.mem_of_getElem? (i := 62) rfl)) (hw _ (List.mem_of_getElem? (i := 150) rfl)) (nfS2 (hw _ (List.mem_of_getElem? (i := 143) rfl)) rfl) (by decide) S.1 d23_10 rfl pd25 rfl rfl rfl (by decide) (W := 0) rfl (by decide) (by decide) (by decide) (by decide) (by decide) ?_
  intro v10 h10 σ10 q10
  obtain ⟨rfl, rfl, rfl⟩ := q10
  show Go κ σ h0 0 0 13 #[.val (.ref s), .val (.ref b), .val (.null), .val (.ref vb), .unset] [(.int (Int32.ofNat ts.length))]
  refine Go.istore D (pc' := 15) d23_13 rfl (ls' := #[.val (.ref s), .val (.ref b), .val (.null), .val (.ref vb), .val (.int (Int32.ofNat ts.length))]) rfl ?_
  refine Go.aloadN D (pc' := 16) d23_15 rfl rfl rfl ?_
  refine Go.callV D (argsL := []) (rest := []) (pc' := 19) (ce' := 0) (sl' := 0) (con_aisl l Z a0 hw h0 n0 σ b vb kb ts S cz hcz O2) (hw _ (List.mem_of_getElem? (i := 153) rfl)) (hw _ (List.mem_of_getElem? (i := 154) rfl)) (hw _ (List.mem_of_getElem? (i := 156) rfl)) (hw _ (List.mem_of_getElem? (i := 155) rfl)) (hw _ (List.mem_of_getElem? (i := 70) rfl)) (hw _ (List.mem_of_getElem? (i := 157) rfl)) (nfS (hw _ (List.mem_of_getElem? (i := 156) rfl))) (by decide) S.1 d23_16 rfl pd27 rfl rfl rfl (by decide) (W := 0) rfl (by decide) (by decide) (by decide) (by decide) (by decide) ?_
  intro v16 h16 σ16 q16
  obtain ⟨rfl, rfl, rfl⟩ := q16
  show Go κ σ h0 0 0 19 #[.val (.ref s), .val (.ref b), .val (.null), .val (.ref vb), .val (.int (Int32.ofNat ts.length))] [(.int (1 : Int32))]
  refine Go.ifc D (pc' := 41) (pc2 := 22) d23_19 (by decide) (by decide) rfl (fun (hc : (1 : Int32) = 0) => absurd hc (by decide)) (fun _ => ?_)
  refine Go.aloadN D (pc' := 23) d23_22 rfl rfl rfl ?_
  refine Go.iconst D (pc' := 24) d23_23 rfl (v := (0 : Int32)) rfl ?_
  refine Go.putF D (pc' := 27) (hw _ (List.mem_of_getElem? (i := 30) rfl)) d23_24 rfl Fc E (Or.inr ⟨(hw _ (List.mem_of_getElem? (i := 31) rfl)), rfl, rfl⟩) (hw _ (List.mem_of_getElem? (i := 1) rfl)) (ty := .byte) (by decide) rfl rfl g0 ?_
  intro h1 W1
  have z1 := (Keep.of_wr W1).1
  have Z1 : n0 ≤ h1.size := Nat.le_trans Z0 z1
  refine Go.aloadN D (pc' := 28) d23_27 rfl rfl rfl ?_
  refine Go.aloadN D (pc' := 29) d23_28 rfl rfl rfl ?_
  refine Go.iconst D (pc' := 30) d23_29 rfl (v := (0 : Int32)) rfl ?_
  refine Go.iload D (pc' := 32) d23_30 rfl rfl ?_
  refine Go.callS D (argsL := [(.ref vb), (.int (0 : Int32)), (.int (Int32.ofNat ts.length))]) (rest := [(.ref s)]) (pc' := 35) (ce' := 1) (sl' := 16) (con_cr l Z a0 hw h1 n0 σ Z1 vb kb _ (S.2.2.2.2.other W1 nv) ts.length hs (by rw [List.length_append, bv_len]; omega)) (hw _ (List.mem_of_getElem? (i := 158) rfl)) (hw _ (List.mem_of_getElem? (i := 159) rfl)) (hw _ (List.mem_of_getElem? (i := 160) rfl)) (hw _ (List.mem_of_getElem? (i := 161) rfl)) (by decide) d23_32 rfl pd28 rfl rfl rfl (by decide) (W := 1) rfl (by decide) (by decide) (by decide) (by decide) (by decide) ?_
  intro v32 h2 σ32 q32
  obtain ⟨rfl, d, kd, rfl, gd, E2, D2⟩ := q32
  show Go κ σ h2 1 16 35 #[.val (.ref s), .val (.ref b), .val (.null), .val (.ref vb), .val (.int (Int32.ofNat ts.length))] [(.ref d), (.ref s)]
  refine Go.putF D (pc' := 38) (hw _ (List.mem_of_getElem? (i := 32) rfl)) d23_35 rfl ((Fv.other W1 (Or.inr (slot_ne (Or.inr (hw _ (List.mem_of_getElem? (i := 33) rfl))) (Or.inr (hw _ (List.mem_of_getElem? (i := 31) rfl))) (by decide) (t := .array .byte) (t' := .byte) (by decide) (by decide)))).ext E2) ((E.wr W1).ext E2) (Or.inr ⟨(hw _ (List.mem_of_getElem? (i := 33) rfl)), rfl, rfl⟩) (hw _ (List.mem_of_getElem? (i := 1) rfl)) (ty := (.array .byte)) (by decide) rfl rfl g0 ?_
  intro h3 W3
  refine Go.goto D (pc' := 97) d23_38 (by decide) (by decide) ?_
  refine Go.vret D rfl d23_97 (by decide) (by decide) ?_
  have nd : d ≠ s := own_ne (by omega)
  refine ⟨rfl, rfl, (((Keep.refl h0 [s]).wr W1 (Or.inl (by simp))).ext E2).wr W3 (Or.inl (by simp)), ⟨((E.wr W1).ext E2).wr W3, ((Fc.same W1).ext E2).other W3 (Or.inr (slot_ne (Or.inr (hw _ (List.mem_of_getElem? (i := 31) rfl))) (Or.inr (hw _ (List.mem_of_getElem? (i := 33) rfl))) (by decide) (t := .byte) (t' := .array .byte) (by decide) (by decide))), d, kd, ((Fv.other W1 (Or.inr (slot_ne (Or.inr (hw _ (List.mem_of_getElem? (i := 33) rfl))) (Or.inr (hw _ (List.mem_of_getElem? (i := 31) rfl))) (by decide) (t := .array .byte) (t' := .byte) (by decide) (by decide)))).ext E2).same W3, ?_⟩, hp⟩
  rw [take_ts] at D2
  exact D2.other W3 nd
abbrev y22 : MethodName := ⟨"java/lang/String", "<init>", "(Ljava/lang/StringBuilder;)V"⟩
theorem d22_0 : decode jdk_42_method_53_code 0 = .ok (.aload_n 0, 1) := by decide +kernel
theorem d22_1 : decode jdk_42_method_53_code 1 = .ok (.aload_n 1, 1) := by decide +kernel
theorem d22_2 : decode jdk_42_method_53_code 2 = .ok (.aconst_null, 1) := by decide +kernel
theorem d22_3 : decode jdk_42_method_53_code 3 = .ok (.invokespecial 489, 3) := by decide +kernel
theorem d22_6 : decode jdk_42_method_53_code 6 = .ok (.return_, 1) := by decide +kernel
theorem pd22 : parseMethodDescriptor "(Ljava/lang/StringBuilder;)V" = some ⟨[(.object "java/lang/StringBuilder")], none⟩ := by decide +kernel
theorem pn22 : plainFor y22 = true := by first | exact plainFor_of_name (by first | (simp [plainName, overriddenIn]; done) | decide +kernel) | decide +kernel | rfl
set_option maxRecDepth 65536 in
set_option maxHeartbeats 40000000 in
theorem con_s2 (l : Launch) (Z : State) (a0 : Array Value) (hw : ∀ d ∈ tables_1, d.before a0 Z = true) (h0 : Heap) (n0 : Nat) (σ : Sg) (Z0 : n0 ≤ h0.size) (s : Addr) (g0 : n0 ≤ s) (E : Exa Z h0 s "java/lang/String") (Fv : Fld Z h0 s "java/lang/String" "value" "[B" .null) (Fc : Fld Z h0 s "java/lang/String" "coder" "B" (.int 0)) (b vb : Addr) (kb : ClassId) (ts : List Int32) (S : SB Z h0 b vb kb ts) (hs : ts.length < 16) (hp : Lat ts) (cz : Int32) (hcz : ¬ cz = 0) (O2 : Sta Z Z.heap "java/lang/String" "COMPACT_STRINGS" "Z" (.int cz)) :
    Con l Z y22 jdk_42_method_53_code 2 none ({ frames := 4, cells := 1, slots := 16, locals := 80 } : Room) [] #[(.ref s), (.ref b)] σ h0 n0 (fun v h τ => σ = τ ∧ v = none ∧ Keep h0 h [s] ∧ Str Z h s ts) := by
  refine Con.of_go pn22 (ls := #[.val (.ref s), .val (.ref b)]) (fun m => by first | (simp [entryFrame, mkF, argsToLocals, Value.category]; done) | rfl) ?_
  intro κ D
  refine Go.aloadN D (pc' := 1) d22_0 rfl rfl rfl ?_
  refine Go.aloadN D (pc' := 2) d22_1 rfl rfl rfl ?_
  refine Go.aconstNull D (pc' := 3) d22_2 rfl  ?_
  refine Go.callI D (argsL := [(.ref b), (.null)]) (rest := []) (pc' := 6) (ce' := 1) (sl' := 16) (con_s3 l Z a0 hw h0 n0 σ Z0 s g0 E Fv Fc b vb kb ts S hs hp cz hcz O2) rfl (hw _ (List.mem_of_getElem? (i := 137) rfl)) (hw _ (List.mem_of_getElem? (i := 138) rfl)) (hw _ (List.mem_of_getElem? (i := 2) rfl)) (hw _ (List.mem_of_getElem? (i := 139) rfl)) (by decide) d22_3 rfl pd23 rfl rfl rfl (by decide) (W := 0) rfl (by decide) (by decide) (by decide) (by decide) (by decide) ?_
  intro v3 h1 σ3 q3
  obtain ⟨rfl, rfl, k1, S1⟩ := q3
  show Go κ σ h1 1 16 6 #[.val (.ref s), .val (.ref b)] []
  refine Go.vret D rfl d22_6 (by decide) (by decide) ?_
  exact ⟨rfl, rfl, k1, S1⟩
abbrev y21 : MethodName := ⟨"java/lang/StringBuilder", "toString", "()Ljava/lang/String;"⟩
theorem d21_0 : decode jdk_67_method_42_code 0 = .ok (.new 18, 3) := by decide +kernel
theorem d21_3 : decode jdk_67_method_42_code 3 = .ok (.dup, 1) := by decide +kernel
theorem d21_4 : decode jdk_67_method_42_code 4 = .ok (.aload_n 0, 1) := by decide +kernel
theorem d21_5 : decode jdk_67_method_42_code 5 = .ok (.invokespecial 137, 3) := by decide +kernel
theorem d21_8 : decode jdk_67_method_42_code 8 = .ok (.areturn, 1) := by decide +kernel
theorem pd21 : parseMethodDescriptor "()Ljava/lang/String;" = some ⟨[], (some (.object "java/lang/String"))⟩ := by decide +kernel
theorem pn21 : plainFor y21 = true := by first | exact plainFor_of_name (by first | (simp [plainName, overriddenIn]; done) | decide +kernel) | decide +kernel | rfl
set_option maxRecDepth 65536 in
set_option maxHeartbeats 40000000 in
theorem con_toS (l : Launch) (Z : State) (a0 : Array Value) (hw : ∀ d ∈ tables_1, d.before a0 Z = true) (h0 : Heap) (n0 : Nat) (σ : Sg) (Z0 : n0 ≤ h0.size) (b vb : Addr) (kb : ClassId) (ts : List Int32) (S : SB Z h0 b vb kb ts) (hs : ts.length < 16) (hp : Lat ts) (cz : Int32) (hcz : ¬ cz = 0) (O2 : Sta Z Z.heap "java/lang/String" "COMPACT_STRINGS" "Z" (.int cz)) :
    Con l Z y21 jdk_67_method_42_code 1 ((some (.object "java/lang/String"))) ({ frames := 5, cells := 2, slots := 20, locals := 100 } : Room) [] #[(.ref b)] σ h0 n0 (fun v h τ => σ = τ ∧ ∃ a, v = some (.ref a) ∧ h0.size ≤ a ∧ Ext h0 h ∧ Str Z h a ts) := by
  refine Con.of_go pn21 (ls := #[.val (.ref b)]) (fun m => by first | (simp [entryFrame, mkF, argsToLocals, Value.category]; done) | rfl) ?_
  intro κ D
  refine Go.newO D (pc' := 3) (ce' := 1) (sl' := 4) (hw _ (List.mem_of_getElem? (i := 133) rfl)) (hw _ (List.mem_of_getElem? (i := 1) rfl)) (hw _ (List.mem_of_getElem? (i := 2) rfl)) d21_0 rfl rfl rfl (by decide) (by decide) ?_
  intro h1 s gs E1 X1 D1
  have V1 := D1 (Or.inr (hw _ (List.mem_of_getElem? (i := 33) rfl))) (ty := .array .byte) (by decide)
  have C1 := D1 (Or.inr (hw _ (List.mem_of_getElem? (i := 31) rfl))) (ty := .byte) (by decide)
  refine Go.dup D (pc' := 4) d21_3 rfl rfl ?_
  refine Go.aloadN D (pc' := 5) d21_4 rfl rfl rfl ?_
  refine Go.callI D (argsL := [(.ref b)]) (rest := [(.ref s)]) (pc' := 8) (ce' := 2) (sl' := 20) (con_s2 l Z a0 hw h1 n0 σ (Nat.le_trans Z0 E1.1) s (by omega) X1 V1 C1 b vb kb ts (S.ext E1) hs hp cz hcz O2) rfl (hw _ (List.mem_of_getElem? (i := 134) rfl)) (hw _ (List.mem_of_getElem? (i := 135) rfl)) (hw _ (List.mem_of_getElem? (i := 2) rfl)) (hw _ (List.mem_of_getElem? (i := 136) rfl)) (by decide) d21_5 rfl pd22 rfl rfl rfl (by decide) (W := 1) rfl (by decide) (by decide) (by decide) (by decide) (by decide) ?_
  intro v5 h2 σ5 q5
  obtain ⟨rfl, rfl, k2, S2⟩ := q5
  show Go κ σ h2 2 20 8 #[.val (.ref b)] [(.ref s)]
  refine Go.aret D rfl rfl rfl d21_8 (by decide) (by decide) ?_
  exact ⟨rfl, s, rfl, by omega, E1.keepN k2 (by omega), S2⟩
abbrev y8 : MethodName := ⟨"com/example/per_group_sequences/pergroupsequences/CounterId", "<init>", "(Ljava/lang/String;Ljava/lang/String;)V"⟩
theorem d8_0 : decode prog_9_method_1_code 0 = .ok (.aload_n 0, 1) := by decide +kernel
theorem d8_1 : decode prog_9_method_1_code 1 = .ok (.invokespecial 1, 3) := by decide +kernel
theorem d8_4 : decode prog_9_method_1_code 4 = .ok (.aload_n 0, 1) := by decide +kernel
theorem d8_5 : decode prog_9_method_1_code 5 = .ok (.aload_n 1, 1) := by decide +kernel
theorem d8_6 : decode prog_9_method_1_code 6 = .ok (.ldc 7, 2) := by decide +kernel
theorem d8_8 : decode prog_9_method_1_code 8 = .ok (.invokestatic 9, 3) := by decide +kernel
theorem d8_11 : decode prog_9_method_1_code 11 = .ok (.checkcast 15, 3) := by decide +kernel
theorem d8_14 : decode prog_9_method_1_code 14 = .ok (.putfield 17, 3) := by decide +kernel
theorem d8_17 : decode prog_9_method_1_code 17 = .ok (.aload_n 0, 1) := by decide +kernel
theorem d8_18 : decode prog_9_method_1_code 18 = .ok (.aload_n 2, 1) := by decide +kernel
theorem d8_19 : decode prog_9_method_1_code 19 = .ok (.ldc 22, 2) := by decide +kernel
theorem d8_21 : decode prog_9_method_1_code 21 = .ok (.invokestatic 9, 3) := by decide +kernel
theorem d8_24 : decode prog_9_method_1_code 24 = .ok (.checkcast 15, 3) := by decide +kernel
theorem d8_27 : decode prog_9_method_1_code 27 = .ok (.putfield 24, 3) := by decide +kernel
theorem d8_30 : decode prog_9_method_1_code 30 = .ok (.return_, 1) := by decide +kernel
theorem pd8 : parseMethodDescriptor "(Ljava/lang/String;Ljava/lang/String;)V" = some ⟨[(.object "java/lang/String"), (.object "java/lang/String")], none⟩ := by decide +kernel
theorem pn8 : plainFor y8 = true := by first | exact plainFor_of_name (by first | (simp [plainName, overriddenIn]; done) | decide +kernel) | decide +kernel | rfl
set_option maxRecDepth 65536 in
set_option maxHeartbeats 40000000 in
theorem con_ctor (l : Launch) (Z : State) (a0 : Array Value) (hw : ∀ d ∈ tables_1, d.before a0 Z = true) (h0 : Heap) (n0 : Nat) (t u1 u2 : Addr) (g0 : n0 ≤ t) (F : PB Z h0 t .null .null) (X1 : Exa Z h0 u1 "java/lang/String") (X2' : Exa Z h0 u2 "java/lang/String") (hcw : Jvm.Lit.compactW.before a0 Z = true) (hh1 : Jvm.Lit.constHeld Z "com/example/per_group_sequences/pergroupsequences/CounterId" 7) (hh2 : Jvm.Lit.constHeld Z "com/example/per_group_sequences/pergroupsequences/CounterId" 22) (L : List (String × Nat × String × Addr)) (K0 : CsOk CS Z h0 L) :
    Con l Z y8 prog_9_method_1_code 3 none ({ frames := 1, cells := 4, slots := 88, locals := 14 } : Room) [] #[(.ref t), (.ref u1), (.ref u2)] (some L) h0 n0 (fun v h τ => v = none ∧ Keep h0 h [t] ∧ PB Z h t (.ref u1) (.ref u2) ∧ ∃ L', τ = some L' ∧ CsOk CS Z h L') := by
  refine Con.of_go pn8 (ls := #[.val (.ref t), .val (.ref u1), .val (.ref u2)]) (fun m => by first | (simp [entryFrame, mkF, argsToLocals, Value.category]; done) | rfl) ?_
  intro κ D
  refine Go.aloadN D (pc' := 1) d8_0 rfl rfl rfl ?_
  refine Go.initO D (pc' := 4) (hw _ (List.mem_of_getElem? (i := 43) rfl)) (hw _ (List.mem_of_getElem? (i := 16) rfl)) (hw _ (List.mem_of_getElem? (i := 17) rfl)) d8_1 rfl rfl (by decide) (W := 0) rfl (by decide) ?_
  refine Go.aloadN D (pc' := 5) d8_4 rfl rfl rfl ?_
  refine Go.aloadN D (pc' := 6) d8_5 rfl rfl rfl ?_
  refine Go.ldcT D (pc' := 8) (n := 48) (ce' := 2) (sl' := 52) (vs := tb "sequenceName") (z := Int32.ofNat (tb "sequenceName").length) (hw _ (List.mem_of_getElem? (i := 44) rfl)) (wS hw) hh1 hcw ⟨by decide, rfl⟩ (by decide) (by decide) (K0.has (by decide)) (fun a ha => (K0 _ ha).2) d8_6 rfl (by decide) (by decide) rfl rfl (by decide) (by decide) ?_
  intro h1 c1 L1 E1 m1 l1 S1
  have K1 := K0.step E1 (by decide) l1 S1
  refine Go.callS D (argsL := [(.ref u1), (.ref c1)]) (rest := [(.ref t)]) (pc' := 11) (ce' := 2) (sl' := 52) (con_rnn l Z a0 hw h1 n0 (some L1) u1 c1) (hw _ (List.mem_of_getElem? (i := 45) rfl)) (hw _ (List.mem_of_getElem? (i := 46) rfl)) (hw _ (List.mem_of_getElem? (i := 47) rfl)) (hw _ (List.mem_of_getElem? (i := 48) rfl)) (by decide) d8_8 rfl pd9 rfl rfl rfl (by decide) (W := 1) rfl (by decide) (by decide) (by decide) (by decide) (by decide) ?_
  intro v8 h8 σ8 q8
  obtain ⟨rfl, rfl, rfl⟩ := q8
  show Go κ (some L1) h1 2 52 11 #[.val (.ref t), .val (.ref u1), .val (.ref u2)] [(.ref u1), (.ref t)]
  refine Go.castY D (pc' := 14) (hw _ (List.mem_of_getElem? (i := 49) rfl)) d8_11 rfl (Ins.self (X1.ext E1)) ?_
  refine Go.putF D (pc' := 17) (hw _ (List.mem_of_getElem? (i := 50) rfl)) d8_14 rfl (F.ext E1).2.1 (F.ext E1).1 (Or.inr ⟨(hw _ (List.mem_of_getElem? (i := 51) rfl)), rfl, rfl⟩) (hw _ (List.mem_of_getElem? (i := 38) rfl)) (ty := (.object "java/lang/String")) (by decide) rfl rfl g0 ?_
  intro h2 W2
  have F2 := (F.ext E1).set1 hw W2
  have K2 := K1.wr W2 (nlit (F.ext E1).1 K1) (F.ext E1).1 (hw _ (List.mem_of_getElem? (i := 38) rfl))
  have X2 := (X2'.ext E1).wr W2
  refine Go.aloadN D (pc' := 18) d8_17 rfl rfl rfl ?_
  refine Go.aloadN D (pc' := 19) d8_18 rfl rfl rfl ?_
  refine Go.ldcT D (pc' := 21) (n := 32) (ce' := 4) (sl' := 88) (vs := tb "groupKey") (z := Int32.ofNat (tb "groupKey").length) (hw _ (List.mem_of_getElem? (i := 52) rfl)) (wS hw) hh2 hcw ⟨by decide, rfl⟩ (by decide) (by decide) (K2.has (by decide)) (fun a ha => (K2 _ ha).2) d8_19 rfl (by decide) (by decide) rfl rfl (by decide) (by decide) ?_
  intro h3 c3 L3 E3 m3 l3 S3
  have K3 := K2.step E3 (by decide) l3 S3
  refine Go.callS D (argsL := [(.ref u2), (.ref c3)]) (rest := [(.ref t)]) (pc' := 24) (ce' := 4) (sl' := 88) (con_rnn l Z a0 hw h3 n0 (some L3) u2 c3) (hw _ (List.mem_of_getElem? (i := 45) rfl)) (hw _ (List.mem_of_getElem? (i := 46) rfl)) (hw _ (List.mem_of_getElem? (i := 47) rfl)) (hw _ (List.mem_of_getElem? (i := 48) rfl)) (by decide) d8_21 rfl pd9 rfl rfl rfl (by decide) (W := 1) rfl (by decide) (by decide) (by decide) (by decide) (by decide) ?_
  intro v21 h21 σ21 q21
  obtain ⟨rfl, rfl, rfl⟩ := q21
  show Go κ (some L3) h3 4 88 24 #[.val (.ref t), .val (.ref u1), .val (.ref u2)] [(.ref u2), (.ref t)]
  refine Go.castY D (pc' := 27) (hw _ (List.mem_of_getElem? (i := 49) rfl)) d8_24 rfl (Ins.self (X2.ext E3)) ?_
  refine Go.putF D (pc' := 30) (hw _ (List.mem_of_getElem? (i := 53) rfl)) d8_27 rfl (F2.ext E3).2.2 (F2.ext E3).1 (Or.inr ⟨(hw _ (List.mem_of_getElem? (i := 54) rfl)), rfl, rfl⟩) (hw _ (List.mem_of_getElem? (i := 38) rfl)) (ty := (.object "java/lang/String")) (by decide) rfl rfl g0 ?_
  intro h4 W4
  refine Go.vret D rfl d8_30 (by decide) (by decide) ?_
  exact ⟨rfl, ((((Keep.refl _ _).ext E1).wr W2 (Or.inl (by simp))).ext E3).wr W4 (Or.inl (by simp)), (F2.ext E3).set2 hw W4, L3, rfl, K3.wr W4 (nlit (F2.ext E3).1 K3) (F2.ext E3).1 (hw _ (List.mem_of_getElem? (i := 38) rfl))⟩
abbrev y10 : MethodName := ⟨"com/example/per_group_sequences/pergroupsequences/CounterId", "toString", "()Ljava/lang/String;"⟩
theorem d10_0 : decode prog_9_method_6_code 0 = .ok (.new 34, 3) := by decide +kernel
theorem d10_3 : decode prog_9_method_6_code 3 = .ok (.dup, 1) := by decide +kernel
theorem d10_4 : decode prog_9_method_6_code 4 = .ok (.invokespecial 36, 3) := by decide +kernel
theorem d10_7 : decode prog_9_method_6_code 7 = .ok (.ldc 37, 2) := by decide +kernel
theorem d10_9 : decode prog_9_method_6_code 9 = .ok (.invokevirtual 39, 3) := by decide +kernel
theorem d10_12 : decode prog_9_method_6_code 12 = .ok (.aload_n 0, 1) := by decide +kernel
theorem d10_13 : decode prog_9_method_6_code 13 = .ok (.getfield 17, 3) := by decide +kernel
theorem d10_16 : decode prog_9_method_6_code 16 = .ok (.invokevirtual 39, 3) := by decide +kernel
theorem d10_19 : decode prog_9_method_6_code 19 = .ok (.ldc 43, 2) := by decide +kernel
theorem d10_21 : decode prog_9_method_6_code 21 = .ok (.invokevirtual 39, 3) := by decide +kernel
theorem d10_24 : decode prog_9_method_6_code 24 = .ok (.aload_n 0, 1) := by decide +kernel
theorem d10_25 : decode prog_9_method_6_code 25 = .ok (.getfield 24, 3) := by decide +kernel
theorem d10_28 : decode prog_9_method_6_code 28 = .ok (.invokevirtual 39, 3) := by decide +kernel
theorem d10_31 : decode prog_9_method_6_code 31 = .ok (.ldc 45, 2) := by decide +kernel
theorem d10_33 : decode prog_9_method_6_code 33 = .ok (.invokevirtual 39, 3) := by decide +kernel
theorem d10_36 : decode prog_9_method_6_code 36 = .ok (.invokevirtual 47, 3) := by decide +kernel
theorem d10_39 : decode prog_9_method_6_code 39 = .ok (.areturn, 1) := by decide +kernel
theorem pd10 : parseMethodDescriptor "()Ljava/lang/String;" = some ⟨[], (some (.object "java/lang/String"))⟩ := by decide +kernel
theorem pn10 : plainFor y10 = true := by first | exact plainFor_of_name (by first | (simp [plainName, overriddenIn]; done) | decide +kernel) | decide +kernel | rfl
set_option maxRecDepth 65536 in
set_option maxHeartbeats 40000000 in
theorem con_cts (l : Launch) (Z : State) (a0 : Array Value) (hw : ∀ d ∈ tables_1, d.before a0 Z = true) (h0 : Heap) (n0 : Nat) (Z0 : n0 ≤ h0.size) (t s1 s2 : Addr) (cs1 cs2 : List Int32) (P : PB Z h0 t (.ref s1) (.ref s2)) (S1 : Str Z h0 s1 cs1) (S2 : Str Z h0 s2 cs2) (l1 : cs1.length ≤ 2) (l2 : cs2.length ≤ 2) (hcw : Jvm.Lit.compactW.before a0 Z = true) (hhA : Jvm.Lit.constHeld Z "com/example/per_group_sequences/pergroupsequences/CounterId" 37) (hhB : Jvm.Lit.constHeld Z "com/example/per_group_sequences/pergroupsequences/CounterId" 43) (hhC : Jvm.Lit.constHeld Z "com/example/per_group_sequences/pergroupsequences/CounterId" 45) (cz : Int32) (hcz : ¬ cz = 0) (O2 : Sta Z Z.heap "java/lang/String" "COMPACT_STRINGS" "Z" (.int cz)) (L : List (String × Nat × String × Addr)) (K0 : CsOk CS Z h0 L) :
    Con l Z y10 prog_9_method_6_code 1 ((some (.object "java/lang/String"))) ({ frames := 6, cells := 10, slots := 80, locals := 130 } : Room) [] #[(.ref t)] (some L) h0 n0 (fun v h τ => ∃ a L', v = some (.ref a) ∧ Str Z h a (resV cs1 cs2) ∧ τ = some L') := by
  refine Con.of_go pn10 (ls := #[.val (.ref t)]) (fun m => by first | (simp [entryFrame, mkF, argsToLocals, Value.category]; done) | rfl) ?_
  intro κ D
  refine Go.newO D (pc' := 3) (ce' := 1) (sl' := 4) (hw _ (List.mem_of_getElem? (i := 60) rfl)) (hw _ (List.mem_of_getElem? (i := 61) rfl)) (hw _ (List.mem_of_getElem? (i := 62) rfl)) d10_0 rfl rfl rfl (by decide) (by decide) ?_
  intro h1 b gb E1 X1 D1
  have Fv : Fld Z h1 b "java/lang/AbstractStringBuilder" "value" "[B" .null := D1 (Or.inl (hw _ (List.mem_of_getElem? (i := 75) rfl))) (ty := .array .byte) (by decide)
  have Fc : Fld Z h1 b "java/lang/AbstractStringBuilder" "coder" "B" (.int 0) := D1 (Or.inl (hw _ (List.mem_of_getElem? (i := 77) rfl))) (ty := .byte) (by decide)
  have Fn : Fld Z h1 b "java/lang/AbstractStringBuilder" "count" "I" (.int 0) := D1 (Or.inl (hw _ (List.mem_of_getElem? (i := 100) rfl))) (ty := .int) (by decide)
  have Z1 : n0 ≤ h1.size := Nat.le_trans Z0 E1.1
  have gb' : n0 ≤ b := by omega
  refine Go.dup D (pc' := 4) d10_3 rfl rfl ?_
  refine Go.callI D (argsL := []) (rest := [(.ref b)]) (pc' := 7) (ce' := 2) (sl' := 20) (con_snew l Z a0 hw h1 n0 (some L) Z1 b gb' X1 Fv Fc Fn cz hcz O2) rfl (hw _ (List.mem_of_getElem? (i := 63) rfl)) (hw _ (List.mem_of_getElem? (i := 64) rfl)) (hw _ (List.mem_of_getElem? (i := 62) rfl)) (hw _ (List.mem_of_getElem? (i := 65) rfl)) (by decide) d10_4 rfl pd11 rfl rfl rfl (by decide) (W := 1) rfl (by decide) (by decide) (by decide) (by decide) (by decide) ?_
  intro v4 h2 σ4 q4
  obtain ⟨rfl, rfl, k2, vb, kb, gvb, B2⟩ := q4
  show Go κ (some L) h2 2 20 7 #[.val (.ref t)] [(.ref b)]
  have gv' : n0 ≤ vb := Nat.le_trans Z1 gvb
  have e2 := E1.keepN k2 (by omega)
  have Pa := P.ext e2
  have S1a := S1.ext e2
  have S2a := S2.ext e2
  have Ka := K0.ext e2
  refine Go.ldcT D (pc' := 9) (n := 4) (ce' := 4) (sl' := 28) (vs := tb "(") (z := Int32.ofNat (tb "(").length) (hw _ (List.mem_of_getElem? (i := 78) rfl)) (wS hw) hhA hcw ⟨by decide, rfl⟩ (by decide) (by decide) (Ka.has (by decide)) (fun a ha => (Ka _ ha).2) d10_7 rfl (by decide) (by decide) rfl rfl (by decide) (by decide) ?_
  intro h7 c7 L7 E7 m7 l7 S7
  have T7 : Str Z h7 c7 [40] := ⟨by rw [show bv [40] = tb "(" from by decide, show ([40] : List Int32).length = (tb "(").length from by decide]; exact S7, by unfold Lat; decide⟩
  have Pb := Pa.ext E7
  have S1b := S1a.ext E7
  have S2b := S2a.ext E7
  have Kb := Ka.ext E7
  have KK7 := Ka.step E7 (by decide) l7 S7
  have Bb := B2.ext E7
  refine Go.callV D (argsL := [(.ref c7)]) (rest := []) (pc' := 12) (ce' := 4) (sl' := 28) (con_sapp l Z a0 hw h7 n0 (some L7) b vb kb (([] : List Int32)) Bb gb' gv' c7 [40] T7 (by simp <;> omega) cz hcz O2) (hw _ (List.mem_of_getElem? (i := 79) rfl)) (hw _ (List.mem_of_getElem? (i := 80) rfl)) (hw _ (List.mem_of_getElem? (i := 82) rfl)) (hw _ (List.mem_of_getElem? (i := 81) rfl)) (hw _ (List.mem_of_getElem? (i := 62) rfl)) (hw _ (List.mem_of_getElem? (i := 83) rfl)) (nfS (hw _ (List.mem_of_getElem? (i := 82) rfl))) (by decide) Bb.1 d10_9 rfl pd13 rfl rfl rfl (by decide) (W := 0) rfl (by decide) (by decide) (by decide) (by decide) (by decide) ?_
  intro v9 h9 σ9 q9
  obtain ⟨rfl, rfl, k9, Bn9⟩ := q9
  show Go κ (some L7) h9 4 28 12 #[.val (.ref t)] [(.ref b)]
  have Pc := Pb.keep2 hw k9 Bb
  have S1c := S1b.keep2 hw k9 Bb (by omega)
  have S2c := S2b.keep2 hw k9 Bb (by omega)
  have Kc := KK7.keep2 hw k9 Bb
  refine Go.aloadN D (pc' := 13) d10_12 rfl rfl rfl ?_
  refine Go.getF D (pc' := 16) (hw _ (List.mem_of_getElem? (i := 50) rfl)) d10_13 rfl Pc.2.1 ?_
  refine Go.callV D (argsL := [(.ref s1)]) (rest := []) (pc' := 19) (ce' := 4) (sl' := 28) (con_sapp l Z a0 hw h9 n0 (some L7) b vb kb (([] : List Int32) ++ [40]) Bn9 gb' gv' s1 cs1 S1c (by simp <;> omega) cz hcz O2) (hw _ (List.mem_of_getElem? (i := 79) rfl)) (hw _ (List.mem_of_getElem? (i := 80) rfl)) (hw _ (List.mem_of_getElem? (i := 82) rfl)) (hw _ (List.mem_of_getElem? (i := 81) rfl)) (hw _ (List.mem_of_getElem? (i := 62) rfl)) (hw _ (List.mem_of_getElem? (i := 83) rfl)) (nfS (hw _ (List.mem_of_getElem? (i := 82) rfl))) (by decide) Bn9.1 d10_16 rfl pd13 rfl rfl rfl (by decide) (W := 0) rfl (by decide) (by decide) (by decide) (by decide) (by decide) ?_
  intro v16 h16 σ16 q16
  obtain ⟨rfl, rfl, k16, Bn16⟩ := q16
  show Go κ (some L7) h16 4 28 19 #[.val (.ref t)] [(.ref b)]
  have Pd := Pc.keep2 hw k16 Bn9
  have S1d := S1c.keep2 hw k16 Bn9 (by omega)
  have S2d := S2c.keep2 hw k16 Bn9 (by omega)
  have Kd := Kc.keep2 hw k16 Bn9
  refine Go.ldcT D (pc' := 21) (n := 8) (ce' := 6) (sl' := 40) (vs := tb ", ") (z := Int32.ofNat (tb ", ").length) (hw _ (List.mem_of_getElem? (i := 126) rfl)) (wS hw) hhB hcw ⟨by decide, rfl⟩ (by decide) (by decide) (Kd.has (by decide)) (fun a ha => (Kd _ ha).2) d10_19 rfl (by decide) (by decide) rfl rfl (by decide) (by decide) ?_
  intro h19 c19 L19 E19 m19 l19 S19
  have T19 : Str Z h19 c19 [44, 32] := ⟨by rw [show bv [44, 32] = tb ", " from by decide, show ([44, 32] : List Int32).length = (tb ", ").length from by decide]; exact S19, by unfold Lat; decide⟩
  have Pe := Pd.ext E19
  have S1e := S1d.ext E19
  have S2e := S2d.ext E19
  have Ke := Kd.ext E19
  have KK19 := Kd.step E19 (by decide) l19 S19
  have Be := Bn16.ext E19
  refine Go.callV D (argsL := [(.ref c19)]) (rest := []) (pc' := 24) (ce' := 6) (sl' := 40) (con_sapp l Z a0 hw h19 n0 (some L19) b vb kb ((([] : List Int32) ++ [40]) ++ cs1) Be gb' gv' c19 [44, 32] T19 (by simp <;> omega) cz hcz O2) (hw _ (List.mem_of_getElem? (i := 79) rfl)) (hw _ (List.mem_of_getElem? (i := 80) rfl)) (hw _ (List.mem_of_getElem? (i := 82) rfl)) (hw _ (List.mem_of_getElem? (i := 81) rfl)) (hw _ (List.mem_of_getElem? (i := 62) rfl)) (hw _ (List.mem_of_getElem? (i := 83) rfl)) (nfS (hw _ (List.mem_of_getElem? (i := 82) rfl))) (by decide) Be.1 d10_21 rfl pd13 rfl rfl rfl (by decide) (W := 0) rfl (by decide) (by decide) (by decide) (by decide) (by decide) ?_
  intro v21 h21 σ21 q21
  obtain ⟨rfl, rfl, k21, Bn21⟩ := q21
  show Go κ (some L19) h21 6 40 24 #[.val (.ref t)] [(.ref b)]
  have Pf := Pe.keep2 hw k21 Be
  have S1f := S1e.keep2 hw k21 Be (by omega)
  have S2f := S2e.keep2 hw k21 Be (by omega)
  have Kf := KK19.keep2 hw k21 Be
  refine Go.aloadN D (pc' := 25) d10_24 rfl rfl rfl ?_
  refine Go.getF D (pc' := 28) (hw _ (List.mem_of_getElem? (i := 53) rfl)) d10_25 rfl Pf.2.2 ?_
  refine Go.callV D (argsL := [(.ref s2)]) (rest := []) (pc' := 31) (ce' := 6) (sl' := 40) (con_sapp l Z a0 hw h21 n0 (some L19) b vb kb (((([] : List Int32) ++ [40]) ++ cs1) ++ [44, 32]) Bn21 gb' gv' s2 cs2 S2f (by simp <;> omega) cz hcz O2) (hw _ (List.mem_of_getElem? (i := 79) rfl)) (hw _ (List.mem_of_getElem? (i := 80) rfl)) (hw _ (List.mem_of_getElem? (i := 82) rfl)) (hw _ (List.mem_of_getElem? (i := 81) rfl)) (hw _ (List.mem_of_getElem? (i := 62) rfl)) (hw _ (List.mem_of_getElem? (i := 83) rfl)) (nfS (hw _ (List.mem_of_getElem? (i := 82) rfl))) (by decide) Bn21.1 d10_28 rfl pd13 rfl rfl rfl (by decide) (W := 0) rfl (by decide) (by decide) (by decide) (by decide) (by decide) ?_
  intro v28 h28 σ28 q28
  obtain ⟨rfl, rfl, k28, Bn28⟩ := q28
  show Go κ (some L19) h28 6 40 31 #[.val (.ref t)] [(.ref b)]
  have Pg := Pf.keep2 hw k28 Bn21
  have S1g := S1f.keep2 hw k28 Bn21 (by omega)
  have S2g := S2f.keep2 hw k28 Bn21 (by omega)
  have Kg := Kf.keep2 hw k28 Bn21
  refine Go.ldcT D (pc' := 33) (n := 4) (ce' := 8) (sl' := 48) (vs := tb ")") (z := Int32.ofNat (tb ")").length) (hw _ (List.mem_of_getElem? (i := 127) rfl)) (wS hw) hhC hcw ⟨by decide, rfl⟩ (by decide) (by decide) (Kg.has (by decide)) (fun a ha => (Kg _ ha).2) d10_31 rfl (by decide) (by decide) rfl rfl (by decide) (by decide) ?_
  intro h31 c31 L31 E31 m31 l31 S31
  have T31 : Str Z h31 c31 [41] := ⟨by rw [show bv [41] = tb ")" from by decide, show ([41] : List Int32).length = (tb ")").length from by decide]; exact S31, by unfold Lat; decide⟩
  have Ph := Pg.ext E31
  have S1h := S1g.ext E31
  have S2h := S2g.ext E31
  have Kh := Kg.ext E31
  have KK31 := Kg.step E31 (by decide) l31 S31
  have Bh := Bn28.ext E31
  refine Go.callV D (argsL := [(.ref c31)]) (rest := []) (pc' := 36) (ce' := 8) (sl' := 48) (con_sapp l Z a0 hw h31 n0 (some L31) b vb kb ((((([] : List Int32) ++ [40]) ++ cs1) ++ [44, 32]) ++ cs2) Bh gb' gv' c31 [41] T31 (by simp <;> omega) cz hcz O2) (hw _ (List.mem_of_getElem? (i := 79) rfl)) (hw _ (List.mem_of_getElem? (i := 80) rfl)) (hw _ (List.mem_of_getElem? (i := 82) rfl)) (hw _ (List.mem_of_getElem? (i := 81) rfl)) (hw _ (List.mem_of_getElem? (i := 62) rfl)) (hw _ (List.mem_of_getElem? (i := 83) rfl)) (nfS (hw _ (List.mem_of_getElem? (i := 82) rfl))) (by decide) Bh.1 d10_33 rfl pd13 rfl rfl rfl (by decide) (W := 0) rfl (by decide) (by decide) (by decide) (by decide) (by decide) ?_
  intro v33 h33 σ33 q33
  obtain ⟨rfl, rfl, k33, Bn33⟩ := q33
  show Go κ (some L31) h33 8 48 36 #[.val (.ref t)] [(.ref b)]
  have Pi := Ph.keep2 hw k33 Bh
  have S1i := S1h.keep2 hw k33 Bh (by omega)
  have S2i := S2h.keep2 hw k33 Bh (by omega)
  have Ki := KK31.keep2 hw k33 Bh
  have hL : Lat (resV cs1 cs2) := ((((Lat.app (by unfold Lat; decide) (by unfold Lat; decide) (by decide)).app S1.2 (by simp <;> omega)).app (b := [44, 32]) (by unfold Lat; decide) (by simp <;> omega)).app S2.2 (by simp <;> omega)).app (b := [41]) (by unfold Lat; decide) (by simp <;> omega)
  have zz : n0 ≤ h33.size := Nat.le_trans gb' (Nat.le_of_lt (Exa.lt Bn33.1))
  refine Go.callV D (argsL := []) (rest := []) (pc' := 39) (ce' := 10) (sl' := 68) (con_toS l Z a0 hw h33 n0 (some L31) zz b vb kb (resV cs1 cs2) Bn33 (by simp [resV] <;> omega) hL cz hcz O2) (hw _ (List.mem_of_getElem? (i := 128) rfl)) (hw _ (List.mem_of_getElem? (i := 129) rfl)) (hw _ (List.mem_of_getElem? (i := 131) rfl)) (hw _ (List.mem_of_getElem? (i := 130) rfl)) (hw _ (List.mem_of_getElem? (i := 62) rfl)) (hw _ (List.mem_of_getElem? (i := 132) rfl)) (nfS (hw _ (List.mem_of_getElem? (i := 131) rfl))) (by decide) Bn33.1 d10_36 rfl pd21 rfl rfl rfl (by decide) (W := 0) rfl (by decide) (by decide) (by decide) (by decide) (by decide) ?_
  intro v36 h36 σ36 q36
  obtain ⟨rfl, r, rfl, gr, er, Sr⟩ := q36
  show Go κ (some L31) h36 10 68 39 #[.val (.ref t)] [(.ref r)]
  refine Go.aret D rfl rfl rfl d10_39 (by decide) (by decide) ?_
  exact ⟨r, _, rfl, Sr, rfl⟩
abbrev y32 : MethodName := ⟨"com/example/per_group_sequences/pergroupsequences/CounterIdToStringPinLaw", "at", "(Ljava/lang/String;I)I"⟩
theorem d32_0 : decode method_4_code 0 = .ok (.iload_n 1, 1) := by decide +kernel
theorem d32_1 : decode method_4_code 1 = .ok (.aload_n 0, 1) := by decide +kernel
theorem d32_2 : decode method_4_code 2 = .ok (.invokevirtual 7, 3) := by decide +kernel
theorem d32_5 : decode method_4_code 5 = .ok (.if_icmp .ge 11, 3) := by decide +kernel
theorem d32_8 : decode method_4_code 8 = .ok (.aload_n 0, 1) := by decide +kernel
theorem d32_9 : decode method_4_code 9 = .ok (.iload_n 1, 1) := by decide +kernel
theorem d32_10 : decode method_4_code 10 = .ok (.invokevirtual 13, 3) := by decide +kernel
theorem d32_13 : decode method_4_code 13 = .ok (.goto 4, 3) := by decide +kernel
theorem d32_16 : decode method_4_code 16 = .ok (.iconst (-1), 1) := by decide +kernel
theorem d32_17 : decode method_4_code 17 = .ok (.ireturn, 1) := by decide +kernel
theorem pd32 : parseMethodDescriptor "(Ljava/lang/String;I)I" = some ⟨[(.object "java/lang/String"), .int], (some .int)⟩ := by decide +kernel
theorem pn32 : plainFor y32 = true := by first | exact plainFor_of_name (by first | (simp [plainName, overriddenIn]; done) | decide +kernel) | decide +kernel | rfl
set_option maxRecDepth 65536 in
set_option maxHeartbeats 40000000 in
theorem con_at (l : Launch) (Z : State) (a0 : Array Value) (hw : ∀ d ∈ tables_1, d.before a0 Z = true) (h0 : Heap) (n0 : Nat) (σ : Sg) (s : Addr) (cs : List Int32) (S : Str Z h0 s cs) (i : Nat) (hi : i < 8) (cz : Int32) (hcz : ¬ cz = 0) (O2 : Sta Z Z.heap "java/lang/String" "COMPACT_STRINGS" "Z" (.int cz)) (fm : Value) (rf : fm.isRef = true) (O4 : Sta Z Z.heap "jdk/internal/util/Preconditions" "SIOOBE_FORMATTER" "Ljava/util/function/BiFunction;" fm) :
    Con l Z y32 method_4_code 2 ((some .int)) ({ frames := 4, cells := 0, slots := 0, locals := 56 } : Room) [] #[(.ref s), (.int (Int32.ofNat i))] σ h0 n0 (fun v h τ => h0 = h ∧ σ = τ ∧ v = some (.int (cs.getD i (-1)))) := by
  refine Con.of_go pn32 (ls := #[.val (.ref s), .val (.int (Int32.ofNat i))]) (fun m => by first | (simp [entryFrame, mkF, argsToLocals, Value.category]; done) | rfl) ?_
  intro κ D
  have hl := S.2.2
  refine Go.iloadN D (pc' := 1) d32_0 rfl rfl ?_
  refine Go.aloadN D (pc' := 2) d32_1 rfl rfl rfl ?_
  refine Go.callV D (argsL := []) (rest := [(.int (Int32.ofNat i))]) (pc' := 5) (ce' := 0) (sl' := 0) (con_slen l Z a0 hw h0 n0 σ s cs S cz hcz O2) (hw _ (List.mem_of_getElem? (i := 173) rfl)) (hw _ (List.mem_of_getElem? (i := 90) rfl)) (hw _ (List.mem_of_getElem? (i := 92) rfl)) (hw _ (List.mem_of_getElem? (i := 91) rfl)) (hw _ (List.mem_of_getElem? (i := 2) rfl)) (hw _ (List.mem_of_getElem? (i := 93) rfl)) (nfS (hw _ (List.mem_of_getElem? (i := 92) rfl))) (by decide) S.1.1 d32_2 rfl pd15 rfl rfl rfl (by decide) (W := 1) rfl (by decide) (by decide) (by decide) (by decide) (by decide) ?_
  intro v2 h2 σ2 q2
  obtain ⟨rfl, rfl, rfl⟩ := q2
  show Go κ σ h0 0 0 5 #[.val (.ref s), .val (.int (Int32.ofNat i))] [(.int (Int32.ofNat cs.length)), (.int (Int32.ofNat i))]
  refine Go.icmp D (pc' := 16) (pc2 := 8) d32_5 (by decide) (by decide) rfl ?_ ?_
  · intro (hc5 : ¬ (Int32.ofNat i) < (Int32.ofNat cs.length))
    refine Go.iconst D (pc' := 17) d32_16 rfl (v := (-1 : Int32)) rfl ?_
    refine Go.iret D rfl d32_17 (by decide) (by decide) ?_
    exact ⟨rfl, rfl, by rw [getD_out (fun q => hc5 ((own_lt (by omega) (by omega)).mpr q))]⟩
  · intro (hc5 : (Int32.ofNat i) < (Int32.ofNat cs.length))
    refine Go.aloadN D (pc' := 9) d32_8 rfl rfl rfl ?_
    refine Go.iloadN D (pc' := 10) d32_9 rfl rfl ?_
    have hi' : i < cs.length := (own_lt (by omega) (by omega)).mp hc5
    refine Go.callV D (argsL := [(.int (Int32.ofNat i))]) (rest := []) (pc' := 13) (ce' := 0) (sl' := 0) (con_chAt l Z a0 hw h0 n0 σ s cs S i hi' cz hcz O2 fm rf O4) (hw _ (List.mem_of_getElem? (i := 177) rfl)) (hw _ (List.mem_of_getElem? (i := 178) rfl)) (hw _ (List.mem_of_getElem? (i := 180) rfl)) (hw _ (List.mem_of_getElem? (i := 179) rfl)) (hw _ (List.mem_of_getElem? (i := 2) rfl)) (hw _ (List.mem_of_getElem? (i := 181) rfl)) (nfS (hw _ (List.mem_of_getElem? (i := 180) rfl))) (by decide) S.1.1 d32_10 rfl pd33 rfl rfl rfl (by decide) (W := 0) rfl (by decide) (by decide) (by decide) (by decide) (by decide) ?_
    intro v10 h10 σ10 q10
    obtain ⟨rfl, rfl, rfl⟩ := q10
    show Go κ σ h0 0 0 13 #[.val (.ref s), .val (.int (Int32.ofNat i))] [(.int cs[i])]
    refine Go.goto D (pc' := 17) d32_13 (by decide) (by decide) ?_
    refine Go.iret D rfl d32_17 (by decide) (by decide) ?_
    exact ⟨rfl, rfl, by rw [getD_in hi']⟩
abbrev y38 : MethodName := ⟨"com/example/per_group_sequences/pergroupsequences/CounterIdToStringPinLaw", "exp", "(IIIIIII)I"⟩
theorem d38_0 : decode method_3_code 0 = .ok (.iload_n 0, 1) := by decide +kernel
theorem d38_1 : decode method_3_code 1 = .ok (.ifCond .ne 6, 3) := by decide +kernel
theorem d38_4 : decode method_3_code 4 = .ok (.bipush 40, 2) := by decide +kernel
theorem d38_6 : decode method_3_code 6 = .ok (.ireturn, 1) := by decide +kernel
theorem d38_7 : decode method_3_code 7 = .ok (.iload_n 0, 1) := by decide +kernel
theorem d38_8 : decode method_3_code 8 = .ok (.iload_n 1, 1) := by decide +kernel
theorem d38_9 : decode method_3_code 9 = .ok (.if_icmp .gt 15, 3) := by decide +kernel
theorem d38_12 : decode method_3_code 12 = .ok (.iload_n 0, 1) := by decide +kernel
theorem d38_13 : decode method_3_code 13 = .ok (.iconst 1, 1) := by decide +kernel
theorem d38_14 : decode method_3_code 14 = .ok (.if_icmp .ne 7, 3) := by decide +kernel
theorem d38_17 : decode method_3_code 17 = .ok (.iload_n 3, 1) := by decide +kernel
theorem d38_18 : decode method_3_code 18 = .ok (.goto 5, 3) := by decide +kernel
theorem d38_21 : decode method_3_code 21 = .ok (.iload 4, 2) := by decide +kernel
theorem d38_23 : decode method_3_code 23 = .ok (.ireturn, 1) := by decide +kernel
theorem d38_24 : decode method_3_code 24 = .ok (.iload_n 0, 1) := by decide +kernel
theorem d38_25 : decode method_3_code 25 = .ok (.iload_n 1, 1) := by decide +kernel
theorem d38_26 : decode method_3_code 26 = .ok (.iconst 1, 1) := by decide +kernel
theorem d38_27 : decode method_3_code 27 = .ok (.iadd, 1) := by decide +kernel
theorem d38_28 : decode method_3_code 28 = .ok (.if_icmp .ne 6, 3) := by decide +kernel
theorem d38_31 : decode method_3_code 31 = .ok (.bipush 44, 2) := by decide +kernel
theorem d38_33 : decode method_3_code 33 = .ok (.ireturn, 1) := by decide +kernel
theorem d38_34 : decode method_3_code 34 = .ok (.iload_n 0, 1) := by decide +kernel
theorem d38_35 : decode method_3_code 35 = .ok (.iload_n 1, 1) := by decide +kernel
theorem d38_36 : decode method_3_code 36 = .ok (.iconst 2, 1) := by decide +kernel
theorem d38_37 : decode method_3_code 37 = .ok (.iadd, 1) := by decide +kernel
theorem d38_38 : decode method_3_code 38 = .ok (.if_icmp .ne 6, 3) := by decide +kernel
theorem d38_41 : decode method_3_code 41 = .ok (.bipush 32, 2) := by decide +kernel
theorem d38_43 : decode method_3_code 43 = .ok (.ireturn, 1) := by decide +kernel
theorem d38_44 : decode method_3_code 44 = .ok (.iload_n 0, 1) := by decide +kernel
theorem d38_45 : decode method_3_code 45 = .ok (.iload_n 1, 1) := by decide +kernel
theorem d38_46 : decode method_3_code 46 = .ok (.iconst 2, 1) := by decide +kernel
theorem d38_47 : decode method_3_code 47 = .ok (.iadd, 1) := by decide +kernel
theorem d38_48 : decode method_3_code 48 = .ok (.iload_n 2, 1) := by decide +kernel
theorem d38_49 : decode method_3_code 49 = .ok (.iadd, 1) := by decide +kernel
theorem d38_50 : decode method_3_code 50 = .ok (.if_icmp .gt 18, 3) := by decide +kernel
theorem d38_53 : decode method_3_code 53 = .ok (.iload_n 0, 1) := by decide +kernel
theorem d38_54 : decode method_3_code 54 = .ok (.iload_n 1, 1) := by decide +kernel
theorem d38_55 : decode method_3_code 55 = .ok (.iconst 3, 1) := by decide +kernel
theorem d38_56 : decode method_3_code 56 = .ok (.iadd, 1) := by decide +kernel
theorem d38_57 : decode method_3_code 57 = .ok (.if_icmp .ne 8, 3) := by decide +kernel
theorem d38_60 : decode method_3_code 60 = .ok (.iload 5, 2) := by decide +kernel
theorem d38_62 : decode method_3_code 62 = .ok (.goto 5, 3) := by decide +kernel
theorem d38_65 : decode method_3_code 65 = .ok (.iload 6, 2) := by decide +kernel
theorem d38_67 : decode method_3_code 67 = .ok (.ireturn, 1) := by decide +kernel
theorem d38_68 : decode method_3_code 68 = .ok (.iload_n 0, 1) := by decide +kernel
theorem d38_69 : decode method_3_code 69 = .ok (.iload_n 1, 1) := by decide +kernel
theorem d38_70 : decode method_3_code 70 = .ok (.iload_n 2, 1) := by decide +kernel
theorem d38_71 : decode method_3_code 71 = .ok (.iadd, 1) := by decide +kernel
theorem d38_72 : decode method_3_code 72 = .ok (.iconst 3, 1) := by decide +kernel
theorem d38_73 : decode method_3_code 73 = .ok (.iadd, 1) := by decide +kernel
theorem d38_74 : decode method_3_code 74 = .ok (.if_icmp .ne 6, 3) := by decide +kernel
theorem d38_77 : decode method_3_code 77 = .ok (.bipush 41, 2) := by decide +kernel
theorem d38_79 : decode method_3_code 79 = .ok (.ireturn, 1) := by decide +kernel
theorem d38_80 : decode method_3_code 80 = .ok (.iconst (-1), 1) := by decide +kernel
theorem d38_81 : decode method_3_code 81 = .ok (.ireturn, 1) := by decide +kernel
theorem pd38 : parseMethodDescriptor "(IIIIIII)I" = some ⟨[.int, .int, .int, .int, .int, .int, .int], (some .int)⟩ := by decide +kernel
theorem pn38 : plainFor y38 = true := by first | exact plainFor_of_name (by first | (simp [plainName, overriddenIn]; done) | decide +kernel) | decide +kernel | rfl
set_option maxRecDepth 65536 in
set_option maxHeartbeats 40000000 in
theorem con_exp (l : Launch) (Z : State) (a0 : Array Value) (hw : ∀ d ∈ tables_1, d.before a0 Z = true) (h0 : Heap) (n0 : Nat) (σ : Sg) (i ls lg a b d f : Int32) :
    Con l Z y38 method_3_code 7 ((some .int)) ({ frames := 0, cells := 0, slots := 0, locals := 0 } : Room) [] #[(.int i), (.int ls), (.int lg), (.int a), (.int b), (.int d), (.int f)] σ h0 n0 (fun v h τ => h0 = h ∧ σ = τ ∧ v = some (.int (expV i ls lg a b d f))) := by
  refine Con.of_go pn38 (ls := #[.val (.int i), .val (.int ls), .val (.int lg), .val (.int a), .val (.int b), .val (.int d), .val (.int f)]) (fun m => by first | (simp [entryFrame, mkF, argsToLocals, Value.category]; done) | rfl) ?_
  intro κ D
  refine Go.iloadN D (pc' := 1) d38_0 rfl rfl ?_
  refine Go.ifc D (pc' := 7) (pc2 := 4) d38_1 (by decide) (by decide) rfl ?_ ?_
  · intro (hc1 : ¬ i = 0)
    refine Go.iloadN D (pc' := 8) d38_7 rfl rfl ?_
    refine Go.iloadN D (pc' := 9) d38_8 rfl rfl ?_
    refine Go.icmp D (pc' := 24) (pc2 := 12) d38_9 (by decide) (by decide) rfl ?_ ?_
    · intro (hc9 : ls < i)
      refine Go.iloadN D (pc' := 25) d38_24 rfl rfl ?_
      refine Go.iloadN D (pc' := 26) d38_25 rfl rfl ?_
      refine Go.iconst D (pc' := 27) d38_26 rfl (v := (1 : Int32)) rfl ?_
      refine Go.iadd D (pc' := 28) d38_27 rfl  ?_
      refine Go.icmp D (pc' := 34) (pc2 := 31) d38_28 (by decide) (by decide) rfl ?_ ?_
      · intro (hc28 : ¬ i = (ls + (1 : Int32)))
        refine Go.iloadN D (pc' := 35) d38_34 rfl rfl ?_
        refine Go.iloadN D (pc' := 36) d38_35 rfl rfl ?_
        refine Go.iconst D (pc' := 37) d38_36 rfl (v := (2 : Int32)) rfl ?_
        refine Go.iadd D (pc' := 38) d38_37 rfl  ?_
        refine Go.icmp D (pc' := 44) (pc2 := 41) d38_38 (by decide) (by decide) rfl ?_ ?_
        · intro (hc38 : ¬ i = (ls + (2 : Int32)))
          refine Go.iloadN D (pc' := 45) d38_44 rfl rfl ?_
          refine Go.iloadN D (pc' := 46) d38_45 rfl rfl ?_
          refine Go.iconst D (pc' := 47) d38_46 rfl (v := (2 : Int32)) rfl ?_
          refine Go.iadd D (pc' := 48) d38_47 rfl  ?_
          refine Go.iloadN D (pc' := 49) d38_48 rfl rfl ?_
          refine Go.iadd D (pc' := 50) d38_49 rfl  ?_
          refine Go.icmp D (pc' := 68) (pc2 := 53) d38_50 (by decide) (by decide) rfl ?_ ?_
          · intro (hc50 : ((ls + (2 : Int32)) + lg) < i)
            refine Go.iloadN D (pc' := 69) d38_68 rfl rfl ?_
            refine Go.iloadN D (pc' := 70) d38_69 rfl rfl ?_
            refine Go.iloadN D (pc' := 71) d38_70 rfl rfl ?_
            refine Go.iadd D (pc' := 72) d38_71 rfl  ?_
            refine Go.iconst D (pc' := 73) d38_72 rfl (v := (3 : Int32)) rfl ?_
            refine Go.iadd D (pc' := 74) d38_73 rfl  ?_
            refine Go.icmp D (pc' := 80) (pc2 := 77) d38_74 (by decide) (by decide) rfl ?_ ?_
            · intro (hc74 : ¬ i = ((ls + lg) + (3 : Int32)))
              refine Go.iconst D (pc' := 81) d38_80 rfl (v := (-1 : Int32)) rfl ?_
              refine Go.iret D rfl d38_81 (by decide) (by decide) ?_
              refine ⟨rfl, rfl, ?_⟩
              unfold expV
              rw [if_neg hc1, if_pos hc9, if_neg hc28, if_neg hc38, if_pos hc50, if_neg hc74]
            · intro (hc74 : i = ((ls + lg) + (3 : Int32)))
              refine Go.bipush D (pc' := 79) d38_77 rfl (v := (41 : Int32)) rfl ?_
              refine Go.iret D rfl d38_79 (by decide) (by decide) ?_
              refine ⟨rfl, rfl, ?_⟩
              unfold expV
              rw [if_neg hc1, if_pos hc9, if_neg hc28, if_neg hc38, if_pos hc50, if_pos hc74]
          · intro (hc50 : ¬ ((ls + (2 : Int32)) + lg) < i)
            refine Go.iloadN D (pc' := 54) d38_53 rfl rfl ?_
            refine Go.iloadN D (pc' := 55) d38_54 rfl rfl ?_
            refine Go.iconst D (pc' := 56) d38_55 rfl (v := (3 : Int32)) rfl ?_
            refine Go.iadd D (pc' := 57) d38_56 rfl  ?_
            refine Go.icmp D (pc' := 65) (pc2 := 60) d38_57 (by decide) (by decide) rfl ?_ ?_
            · intro (hc57 : ¬ i = (ls + (3 : Int32)))
              refine Go.iload D (pc' := 67) d38_65 rfl rfl ?_
              refine Go.iret D rfl d38_67 (by decide) (by decide) ?_
              refine ⟨rfl, rfl, ?_⟩
              unfold expV
              rw [if_neg hc1, if_pos hc9, if_neg hc28, if_neg hc38, if_neg hc50, if_neg hc57]
            · intro (hc57 : i = (ls + (3 : Int32)))
              refine Go.iload D (pc' := 62) d38_60 rfl rfl ?_
              refine Go.goto D (pc' := 67) d38_62 (by decide) (by decide) ?_
              refine Go.iret D rfl d38_67 (by decide) (by decide) ?_
              refine ⟨rfl, rfl, ?_⟩
              unfold expV
              rw [if_neg hc1, if_pos hc9, if_neg hc28, if_neg hc38, if_neg hc50, if_pos hc57]
        · intro (hc38 : i = (ls + (2 : Int32)))
          refine Go.bipush D (pc' := 43) d38_41 rfl (v := (32 : Int32)) rfl ?_
          refine Go.iret D rfl d38_43 (by decide) (by decide) ?_
          refine ⟨rfl, rfl, ?_⟩
          unfold expV
          rw [if_neg hc1, if_pos hc9, if_neg hc28, if_pos hc38]
      · intro (hc28 : i = (ls + (1 : Int32)))
        refine Go.bipush D (pc' := 33) d38_31 rfl (v := (44 : Int32)) rfl ?_
        refine Go.iret D rfl d38_33 (by decide) (by decide) ?_
        refine ⟨rfl, rfl, ?_⟩
        unfold expV
        rw [if_neg hc1, if_pos hc9, if_pos hc28]
    · intro (hc9 : ¬ ls < i)
      refine Go.iloadN D (pc' := 13) d38_12 rfl rfl ?_
      refine Go.iconst D (pc' := 14) d38_13 rfl (v := (1 : Int32)) rfl ?_
      refine Go.icmp D (pc' := 21) (pc2 := 17) d38_14 (by decide) (by decide) rfl ?_ ?_
      · intro (hc14 : ¬ i = (1 : Int32))
        refine Go.iload D (pc' := 23) d38_21 rfl rfl ?_
        refine Go.iret D rfl d38_23 (by decide) (by decide) ?_
        refine ⟨rfl, rfl, ?_⟩
        unfold expV
        rw [if_neg hc1, if_neg hc9, if_neg hc14]
      · intro (hc14 : i = (1 : Int32))
        refine Go.iloadN D (pc' := 18) d38_17 rfl rfl ?_
        refine Go.goto D (pc' := 23) d38_18 (by decide) (by decide) ?_
        refine Go.iret D rfl d38_23 (by decide) (by decide) ?_
        refine ⟨rfl, rfl, ?_⟩
        unfold expV
        rw [if_neg hc1, if_neg hc9, if_pos hc14]
  · intro (hc1 : i = 0)
    refine Go.bipush D (pc' := 6) d38_4 rfl (v := (40 : Int32)) rfl ?_
    refine Go.iret D rfl d38_6 (by decide) (by decide) ?_
    refine ⟨rfl, rfl, ?_⟩
    unfold expV
    rw [if_pos hc1]
theorem pd0 : parseMethodDescriptor "(III)Z" = some ⟨[.int, .int, .int], (some .boolean)⟩ := by decide +kernel
theorem pn0 : plainFor x = true := by first | exact plainFor_of_name (by first | (simp [plainName, overriddenIn]; done) | decide +kernel) | decide +kernel | rfl
set_option maxRecDepth 65536 in
set_option maxHeartbeats 40000000 in
theorem con_law (l : Launch) (Z : State) (a0 : Array Value) (hw : ∀ d ∈ tables_1, d.before a0 Z = true) (h0 : Heap) (n0 : Nat) (Z0 : n0 ≤ h0.size) (hcw : Jvm.Lit.compactW.before a0 Z = true) (hh : Jvm.Lit.constHeld Z "java/lang/String" 7) (cz : Int32) (hcz : ¬ cz = 0) (O2 : Sta Z Z.heap "java/lang/String" "COMPACT_STRINGS" "Z" (.int cz)) (fm : Value) (rf : fm.isRef = true) (O4 : Sta Z Z.heap "jdk/internal/util/Preconditions" "SIOOBE_FORMATTER" "Ljava/util/function/BiFunction;" fm) (hh1 : Jvm.Lit.constHeld Z "com/example/per_group_sequences/pergroupsequences/CounterId" 7) (hh2 : Jvm.Lit.constHeld Z "com/example/per_group_sequences/pergroupsequences/CounterId" 22) (hhA : Jvm.Lit.constHeld Z "com/example/per_group_sequences/pergroupsequences/CounterId" 37) (hhB : Jvm.Lit.constHeld Z "com/example/per_group_sequences/pergroupsequences/CounterId" 43) (hhC : Jvm.Lit.constHeld Z "com/example/per_group_sequences/pergroupsequences/CounterId" 45) (i0 i1 i2 : Int32) :
    Con l Z x code maxLocals ret room_1 tables_1 #[(.int i0), (.int i1), (.int i2)] (some []) h0 n0 (fun v h τ => v = some (.int 1)) := by
  refine Con.of_go pn0 (ls := #[.val (.int i0), .val (.int i1), .val (.int i2), .unset, .unset, .unset, .unset, .unset, .unset, .unset, .unset, .unset, .unset]) (fun m => by first | (simp [entryFrame, mkF, argsToLocals, Value.category, maxLocals]; done) | rfl) ?_
  intro κ D
  refine Go.iloadN D (pc' := 1) at_0 rfl rfl ?_
  refine Go.sipush D (pc' := 4) at_1 rfl (v := (255 : Int32)) rfl ?_
  refine Go.iand D (pc' := 5) at_4 rfl  ?_
  obtain ⟨p0, ep0⟩ : ∃ x, x = (i0 &&& (255 : Int32)) := ⟨_, rfl⟩
  rw [← ep0]
  have hp0 := mask_lat i0
  rw [← ep0] at hp0
  refine Go.istoreN D (pc' := 6) at_5 rfl (ls' := #[.val (.int i0), .val (.int i1), .val (.int i2), .val (.int p0), .unset, .unset, .unset, .unset, .unset, .unset, .unset, .unset, .unset]) rfl ?_
  refine Go.iloadN D (pc' := 7) at_6 rfl rfl ?_
  refine Go.bipush D (pc' := 9) at_7 rfl (v := (8 : Int32)) rfl ?_
  refine Go.iushr D (pc' := 10) at_9 rfl  ?_
  refine Go.sipush D (pc' := 13) at_10 rfl (v := (255 : Int32)) rfl ?_
  refine Go.iand D (pc' := 14) at_13 rfl  ?_
  obtain ⟨p1, ep1⟩ : ∃ x, x = ((ushr i0 (8 : Int32)) &&& (255 : Int32)) := ⟨_, rfl⟩
  rw [← ep1]
  have hp1 := mask_lat (ushr i0 8)
  rw [← ep1] at hp1
  refine Go.istore D (pc' := 16) at_14 rfl (ls' := #[.val (.int i0), .val (.int i1), .val (.int i2), .val (.int p0), .val (.int p1), .unset, .unset, .unset, .unset, .unset, .unset, .unset, .unset]) rfl ?_
  refine Go.iloadN D (pc' := 17) at_16 rfl rfl ?_
  refine Go.sipush D (pc' := 20) at_17 rfl (v := (255 : Int32)) rfl ?_
  refine Go.iand D (pc' := 21) at_20 rfl  ?_
  obtain ⟨q0, eq0⟩ : ∃ x, x = (i1 &&& (255 : Int32)) := ⟨_, rfl⟩
  rw [← eq0]
  have hq0 := mask_lat i1
  rw [← eq0] at hq0
  refine Go.istore D (pc' := 23) at_21 rfl (ls' := #[.val (.int i0), .val (.int i1), .val (.int i2), .val (.int p0), .val (.int p1), .val (.int q0), .unset, .unset, .unset, .unset, .unset, .unset, .unset]) rfl ?_
  refine Go.iloadN D (pc' := 24) at_23 rfl rfl ?_
  refine Go.bipush D (pc' := 26) at_24 rfl (v := (8 : Int32)) rfl ?_
  refine Go.iushr D (pc' := 27) at_26 rfl  ?_
  refine Go.sipush D (pc' := 30) at_27 rfl (v := (255 : Int32)) rfl ?_
  refine Go.iand D (pc' := 31) at_30 rfl  ?_
  obtain ⟨q1, eq1⟩ : ∃ x, x = ((ushr i1 (8 : Int32)) &&& (255 : Int32)) := ⟨_, rfl⟩
  rw [← eq1]
  have hq1 := mask_lat (ushr i1 8)
  rw [← eq1] at hq1
  refine Go.istore D (pc' := 33) at_31 rfl (ls' := #[.val (.int i0), .val (.int i1), .val (.int i2), .val (.int p0), .val (.int p1), .val (.int q0), .val (.int q1), .unset, .unset, .unset, .unset, .unset, .unset]) rfl ?_
  refine Go.iloadN D (pc' := 34) at_33 rfl rfl ?_
  refine Go.iconst D (pc' := 35) at_34 rfl (v := (3 : Int32)) rfl ?_
  refine Go.iand D (pc' := 36) at_35 rfl  ?_
  refine Go.iconst D (pc' := 37) at_36 rfl (v := (3 : Int32)) rfl ?_
  refine Go.irem D (pc' := 38) at_37 rfl (by decide) ?_
  obtain ⟨ls, els⟩ : ∃ x, x = ((i2 &&& (3 : Int32)) % (3 : Int32)) := ⟨_, rfl⟩
  rw [← els]
  have hls := len_cases i2
  rw [← els] at hls
  refine Go.istore D (pc' := 40) at_38 rfl (ls' := #[.val (.int i0), .val (.int i1), .val (.int i2), .val (.int p0), .val (.int p1), .val (.int q0), .val (.int q1), .val (.int ls), .unset, .unset, .unset, .unset, .unset]) rfl ?_
  refine Go.iloadN D (pc' := 41) at_40 rfl rfl ?_
  refine Go.iconst D (pc' := 42) at_41 rfl (v := (2 : Int32)) rfl ?_
  refine Go.iushr D (pc' := 43) at_42 rfl  ?_
  refine Go.iconst D (pc' := 44) at_43 rfl (v := (3 : Int32)) rfl ?_
  refine Go.iand D (pc' := 45) at_44 rfl  ?_
  refine Go.iconst D (pc' := 46) at_45 rfl (v := (3 : Int32)) rfl ?_
  refine Go.irem D (pc' := 47) at_46 rfl (by decide) ?_
  obtain ⟨lg, elg⟩ : ∃ x, x = (((ushr i2 (2 : Int32)) &&& (3 : Int32)) % (3 : Int32)) := ⟨_, rfl⟩
  rw [← elg]
  have hlg := len_cases (ushr i2 2)
  rw [← elg] at hlg
  refine Go.istore D (pc' := 49) at_47 rfl (ls' := #[.val (.int i0), .val (.int i1), .val (.int i2), .val (.int p0), .val (.int p1), .val (.int q0), .val (.int q1), .val (.int ls), .val (.int lg), .unset, .unset, .unset, .unset]) rfl ?_
  refine Go.newO D (pc' := 52) (ce' := 1) (sl' := 4) (hw _ (List.mem_of_getElem? (i := 0) rfl)) (hw _ (List.mem_of_getElem? (i := 1) rfl)) (hw _ (List.mem_of_getElem? (i := 2) rfl)) at_49 rfl rfl rfl (by decide) (by decide) ?_
  intro h49 s1 gs1 E49 X49 D49
  have V49 := D49 (Or.inr (hw _ (List.mem_of_getElem? (i := 33) rfl))) (ty := .array .byte) (by decide)
  have C49 := D49 (Or.inr (hw _ (List.mem_of_getElem? (i := 31) rfl))) (ty := .byte) (by decide)
  have z49 : n0 ≤ h49.size := Nat.le_trans Z0 E49.1
  have l49 := own_ltn X49.lt
  refine Go.dup D (pc' := 53) at_52 rfl rfl ?_
  refine Go.iload D (pc' := 55) at_53 rfl rfl ?_
  refine Go.iloadN D (pc' := 56) at_55 rfl rfl ?_
  refine Go.iload D (pc' := 58) at_56 rfl rfl ?_
  refine Go.callS D (argsL := [(.int ls), (.int p0), (.int p1)]) (rest := [(.ref s1), (.ref s1)]) (pc' := 61) (ce' := 2) (sl' := 6) (con_mk l Z a0 hw h49 n0 z49 (some []) ls p0 p1 hp0 hp1) (hw _ (List.mem_of_getElem? (i := 3) rfl)) (hw _ (List.mem_of_getElem? (i := 4) rfl)) (hw _ (List.mem_of_getElem? (i := 5) rfl)) (hw _ (List.mem_of_getElem? (i := 6) rfl)) (by decide) at_58 rfl pd1 rfl rfl rfl (by decide) (W := 2) rfl (by decide) (by decide) (by decide) (by decide) (by decide) ?_
  intro v58 h58 σ58 q58
  obtain ⟨rfl, a58, k58, rfl, ga58, E58, A58⟩ := q58
  show Go κ (some []) h58 2 6 61 #[.val (.int i0), .val (.int i1), .val (.int i2), .val (.int p0), .val (.int p1), .val (.int q0), .val (.int q1), .val (.int ls), .val (.int lg), .unset, .unset, .unset, .unset] [(.ref a58), (.ref s1), (.ref s1)]
  have z58 : n0 ≤ h58.size := Nat.le_trans z49 E58.1
  have x61 := E49.tr E58
  have KB61 := (CsOk.nil (CS := CS) (Z := Z) (h := h0)).ext x61
  refine Go.callI D (argsL := [(.ref a58)]) (rest := [(.ref s1)]) (pc' := 64) (ce' := 6) (sl' := 70) (con_str l Z a0 hw h58 n0 z58 s1 a58 k58 (scV ls p0 p1) A58 (sc_lat hp0 hp1) cz hcz O2 (by omega) (X49.ext E58) (V49.ext E58) (C49.ext E58) hh hcw [] KB61) rfl (hw _ (List.mem_of_getElem? (i := 8) rfl)) (hw _ (List.mem_of_getElem? (i := 9) rfl)) (hw _ (List.mem_of_getElem? (i := 2) rfl)) (hw _ (List.mem_of_getElem? (i := 10) rfl)) (by decide) at_61 rfl pd2 rfl rfl rfl (by decide) (W := 1) rfl (by decide) (by decide) (by decide) (by decide) (by decide) ?_
  intro v61 h61 σ61 q61
  obtain ⟨rfl, kk61, Ss1, L61, rfl, K61⟩ := q61
  show Go κ (some L61) h61 6 70 64 #[.val (.int i0), .val (.int i1), .val (.int i2), .val (.int p0), .val (.int p1), .val (.int q0), .val (.int q1), .val (.int ls), .val (.int lg), .unset, .unset, .unset, .unset] [(.ref s1)]
  have y61 := x61.keepN kk61 (by omega)
  have z61 : n0 ≤ h61.size := Nat.le_trans z58 kk61.1
  refine Go.astore D (pc' := 66) at_64 rfl rfl (ls' := #[.val (.int i0), .val (.int i1), .val (.int i2), .val (.int p0), .val (.int p1), .val (.int q0), .val (.int q1), .val (.int ls), .val (.int lg), .val (.ref s1), .unset, .unset, .unset]) rfl ?_
  refine Go.newO D (pc' := 69) (ce' := 7) (sl' := 74) (hw _ (List.mem_of_getElem? (i := 0) rfl)) (hw _ (List.mem_of_getElem? (i := 1) rfl)) (hw _ (List.mem_of_getElem? (i := 2) rfl)) at_66 rfl rfl rfl (by decide) (by decide) ?_
  intro h66 s2 gs2 E66 X66 D66
  have V66 := D66 (Or.inr (hw _ (List.mem_of_getElem? (i := 33) rfl))) (ty := .array .byte) (by decide)
  have C66 := D66 (Or.inr (hw _ (List.mem_of_getElem? (i := 31) rfl))) (ty := .byte) (by decide)
  have z66 : n0 ≤ h66.size := Nat.le_trans z61 E66.1
  have l66 := own_ltn X66.lt
  refine Go.dup D (pc' := 70) at_69 rfl rfl ?_
  refine Go.iload D (pc' := 72) at_70 rfl rfl ?_
  refine Go.iload D (pc' := 74) at_72 rfl rfl ?_
  refine Go.iload D (pc' := 76) at_74 rfl rfl ?_
  refine Go.callS D (argsL := [(.int lg), (.int q0), (.int q1)]) (rest := [(.ref s2), (.ref s2)]) (pc' := 79) (ce' := 8) (sl' := 76) (con_mk l Z a0 hw h66 n0 z66 (some L61) lg q0 q1 hq0 hq1) (hw _ (List.mem_of_getElem? (i := 3) rfl)) (hw _ (List.mem_of_getElem? (i := 4) rfl)) (hw _ (List.mem_of_getElem? (i := 5) rfl)) (hw _ (List.mem_of_getElem? (i := 6) rfl)) (by decide) at_76 rfl pd1 rfl rfl rfl (by decide) (W := 2) rfl (by decide) (by decide) (by decide) (by decide) (by decide) ?_
  intro v76 h76 σ76 q76
  obtain ⟨rfl, a76, k76, rfl, ga76, E76, A76⟩ := q76
  show Go κ (some L61) h76 8 76 79 #[.val (.int i0), .val (.int i1), .val (.int i2), .val (.int p0), .val (.int p1), .val (.int q0), .val (.int q1), .val (.int ls), .val (.int lg), .val (.ref s1), .unset, .unset, .unset] [(.ref a76), (.ref s2), (.ref s2)]
  have z76 : n0 ≤ h76.size := Nat.le_trans z66 E76.1
  have x79 := E66.tr E76
  have KB79 := K61.ext x79
  refine Go.callI D (argsL := [(.ref a76)]) (rest := [(.ref s2)]) (pc' := 82) (ce' := 12) (sl' := 140) (con_str l Z a0 hw h76 n0 z76 s2 a76 k76 (scV lg q0 q1) A76 (sc_lat hq0 hq1) cz hcz O2 (by omega) (X66.ext E76) (V66.ext E76) (C66.ext E76) hh hcw L61 KB79) rfl (hw _ (List.mem_of_getElem? (i := 8) rfl)) (hw _ (List.mem_of_getElem? (i := 9) rfl)) (hw _ (List.mem_of_getElem? (i := 2) rfl)) (hw _ (List.mem_of_getElem? (i := 10) rfl)) (by decide) at_79 rfl pd2 rfl rfl rfl (by decide) (W := 1) rfl (by decide) (by decide) (by decide) (by decide) (by decide) ?_
  intro v79 h79 σ79 q79
  obtain ⟨rfl, kk79, Ss2, L79, rfl, K79⟩ := q79
  show Go κ (some L79) h79 12 140 82 #[.val (.int i0), .val (.int i1), .val (.int i2), .val (.int p0), .val (.int p1), .val (.int q0), .val (.int q1), .val (.int ls), .val (.int lg), .val (.ref s1), .unset, .unset, .unset] [(.ref s2)]
  have y79 := x79.keepN kk79 (by omega)
  have z79 : n0 ≤ h79.size := Nat.le_trans z76 kk79.1
  have Ss1 := Ss1.ext y79
  refine Go.astore D (pc' := 84) at_82 rfl rfl (ls' := #[.val (.int i0), .val (.int i1), .val (.int i2), .val (.int p0), .val (.int p1), .val (.int q0), .val (.int q1), .val (.int ls), .val (.int lg), .val (.ref s1), .val (.ref s2), .unset, .unset]) rfl ?_
  refine Go.newO D (pc' := 87) (ce' := 13) (sl' := 142) (hw _ (List.mem_of_getElem? (i := 37) rfl)) (hw _ (List.mem_of_getElem? (i := 38) rfl)) (hw _ (List.mem_of_getElem? (i := 39) rfl)) at_84 rfl rfl rfl (by decide) (by decide) ?_
  intro h84 t gt E84 X84 D84
  have P84 : PB Z h84 t .null .null := ⟨X84, D84 (Or.inr (hw _ (List.mem_of_getElem? (i := 51) rfl))) (ty := .object "java/lang/String") (by decide), D84 (Or.inr (hw _ (List.mem_of_getElem? (i := 54) rfl))) (ty := .object "java/lang/String") (by decide)⟩
  have Ss1 := Ss1.ext E84
  have Ss2 := Ss2.ext E84
  have z84 : n0 ≤ h84.size := Nat.le_trans z79 E84.1
  have ggt : n0 ≤ t := by omega
  have KK84 := K79.ext E84
  refine Go.dup D (pc' := 88) at_87 rfl rfl ?_
  refine Go.aload D (pc' := 90) at_88 rfl rfl rfl ?_
  refine Go.aload D (pc' := 92) at_90 rfl rfl rfl ?_
  refine Go.callI D (argsL := [(.ref s1), (.ref s2)]) (rest := [(.ref t)]) (pc' := 95) (ce' := 17) (sl' := 230) (con_ctor l Z a0 hw h84 n0 t s1 s2 ggt P84 Ss1.1.1 Ss2.1.1 hcw hh1 hh2 L79 KK84) rfl (hw _ (List.mem_of_getElem? (i := 40) rfl)) (hw _ (List.mem_of_getElem? (i := 41) rfl)) (hw _ (List.mem_of_getElem? (i := 39) rfl)) (hw _ (List.mem_of_getElem? (i := 42) rfl)) (by decide) at_92 rfl pd8 rfl rfl rfl (by decide) (W := 1) rfl (by decide) (by decide) (by decide) (by decide) (by decide) ?_
  intro v92 h92 σ92 q92
  obtain ⟨rfl, k92, P92, L92, rfl, K92⟩ := q92
  show Go κ (some L92) h92 17 230 95 #[.val (.int i0), .val (.int i1), .val (.int i2), .val (.int p0), .val (.int p1), .val (.int q0), .val (.int q1), .val (.int ls), .val (.int lg), .val (.ref s1), .val (.ref s2), .unset, .unset] [(.ref t)]
  have Ss1 := Ss1.keep k92 (Exa.ne Ss1.1.1 P84.1 (by decide)) P84.1 (hw _ (List.mem_of_getElem? (i := 38) rfl))
  have Ss2 := Ss2.keep k92 (Exa.ne Ss2.1.1 P84.1 (by decide)) P84.1 (hw _ (List.mem_of_getElem? (i := 38) rfl))
  have z92 : n0 ≤ h92.size := Nat.le_trans z84 k92.1
  refine Go.callV D (argsL := []) (rest := []) (pc' := 98) (ce' := 27) (sl' := 310) (con_cts l Z a0 hw h92 n0 z92 t s1 s2 _ _ P92 Ss1 Ss2 sc_len sc_len hcw hhA hhB hhC cz hcz O2 L92 K92) (hw _ (List.mem_of_getElem? (i := 55) rfl)) (hw _ (List.mem_of_getElem? (i := 56) rfl)) (hw _ (List.mem_of_getElem? (i := 58) rfl)) (hw _ (List.mem_of_getElem? (i := 57) rfl)) (hw _ (List.mem_of_getElem? (i := 39) rfl)) (hw _ (List.mem_of_getElem? (i := 59) rfl)) (nfS (hw _ (List.mem_of_getElem? (i := 58) rfl))) (by decide) P92.1 at_95 rfl pd10 rfl rfl rfl (by decide) (W := 0) rfl (by decide) (by decide) (by decide) (by decide) (by decide) ?_
  intro v95 h95 σ95 q95
  obtain ⟨r, L95, rfl, Sr, rfl⟩ := q95
  show Go κ (some L95) h95 27 310 98 #[.val (.int i0), .val (.int i1), .val (.int i2), .val (.int p0), .val (.int p1), .val (.int q0), .val (.int q1), .val (.int ls), .val (.int lg), .val (.ref s1), .val (.ref s2), .unset, .unset] [(.ref r)]
  refine Go.astore D (pc' := 100) at_98 rfl rfl (ls' := #[.val (.int i0), .val (.int i1), .val (.int i2), .val (.int p0), .val (.int p1), .val (.int q0), .val (.int q1), .val (.int ls), .val (.int lg), .val (.ref s1), .val (.ref s2), .val (.ref r), .unset]) rfl ?_
  refine Go.aload D (pc' := 102) at_100 rfl rfl rfl ?_
  refine Go.callV D (argsL := []) (rest := []) (pc' := 105) (ce' := 27) (sl' := 310) (con_slen l Z a0 hw h95 n0 (some L95) r _ Sr cz hcz O2) (hw _ (List.mem_of_getElem? (i := 173) rfl)) (hw _ (List.mem_of_getElem? (i := 90) rfl)) (hw _ (List.mem_of_getElem? (i := 92) rfl)) (hw _ (List.mem_of_getElem? (i := 91) rfl)) (hw _ (List.mem_of_getElem? (i := 2) rfl)) (hw _ (List.mem_of_getElem? (i := 93) rfl)) (nfS (hw _ (List.mem_of_getElem? (i := 92) rfl))) (by decide) Sr.1.1 at_102 rfl pd15 rfl rfl rfl (by decide) (W := 0) rfl (by decide) (by decide) (by decide) (by decide) (by decide) ?_
  intro v102 h102 σ102 q102
  obtain ⟨rfl, rfl, rfl⟩ := q102
  show Go κ (some L95) h95 27 310 105 #[.val (.int i0), .val (.int i1), .val (.int i2), .val (.int p0), .val (.int p1), .val (.int q0), .val (.int q1), .val (.int ls), .val (.int lg), .val (.ref s1), .val (.ref s2), .val (.ref r), .unset] [(.int (Int32.ofNat (resV (scV ls p0 p1) (scV lg q0 q1)).length))]
  refine Go.iconst D (pc' := 106) at_105 rfl (v := (4 : Int32)) rfl ?_
  refine Go.iload D (pc' := 108) at_106 rfl rfl ?_
  refine Go.iadd D (pc' := 109) at_108 rfl  ?_
  refine Go.iload D (pc' := 111) at_109 rfl rfl ?_
  refine Go.iadd D (pc' := 112) at_111 rfl  ?_
  refine Go.icmp D (pc' := 119) (pc2 := 115) at_112 (by decide) (by decide) rfl ?_ ?_
  · intro (hc112 : ¬ (Int32.ofNat (resV (scV ls p0 p1) (scV lg q0 q1)).length) = (((4 : Int32) + ls) + lg))
    exact absurd (res_len hls hlg) hc112
  · intro (hc112 : (Int32.ofNat (resV (scV ls p0 p1) (scV lg q0 q1)).length) = (((4 : Int32) + ls) + lg))
    refine Go.iconst D (pc' := 116) at_115 rfl (v := (1 : Int32)) rfl ?_
    refine Go.goto D (pc' := 120) at_116 (by decide) (by decide) ?_
    refine Go.istore D (pc' := 122) at_120 rfl (ls' := #[.val (.int i0), .val (.int i1), .val (.int i2), .val (.int p0), .val (.int p1), .val (.int q0), .val (.int q1), .val (.int ls), .val (.int lg), .val (.ref s1), .val (.ref s2), .val (.ref r), .val (.int (1 : Int32))]) rfl ?_
    refine Go.iload D (pc' := 124) at_122 rfl rfl ?_
    refine Go.ifc D (pc' := 155) (pc2 := 127) at_124 (by decide) (by decide) rfl (fun (hc : (1 : Int32) = 0) => absurd hc (by decide)) (fun _ => ?_)
    refine Go.aload D (pc' := 129) at_127 rfl rfl rfl ?_
    refine Go.iconst D (pc' := 130) at_129 rfl (v := (0 : Int32)) rfl ?_
    refine Go.callS D (argsL := [(.ref r), (.int (0 : Int32))]) (rest := []) (pc' := 133) (ce' := 27) (sl' := 310) (con_at l Z a0 hw h95 n0 (some L95) r _ Sr 0 (by decide) cz hcz O2 fm rf O4) (hw _ (List.mem_of_getElem? (i := 174) rfl)) (hw _ (List.mem_of_getElem? (i := 175) rfl)) (hw _ (List.mem_of_getElem? (i := 5) rfl)) (hw _ (List.mem_of_getElem? (i := 176) rfl)) (by decide) at_130 rfl pd32 rfl rfl rfl (by decide) (W := 0) rfl (by decide) (by decide) (by decide) (by decide) (by decide) ?_
    intro v130 h130 σ130 q130
    obtain ⟨rfl, rfl, rfl⟩ := q130
    show Go κ (some L95) h95 27 310 133 #[.val (.int i0), .val (.int i1), .val (.int i2), .val (.int p0), .val (.int p1), .val (.int q0), .val (.int q1), .val (.int ls), .val (.int lg), .val (.ref s1), .val (.ref s2), .val (.ref r), .val (.int (1 : Int32))] [(.int ((resV (scV ls p0 p1) (scV lg q0 q1)).getD 0 (-1)))]
    refine Go.iconst D (pc' := 134) at_133 rfl (v := (0 : Int32)) rfl ?_
    refine Go.iload D (pc' := 136) at_134 rfl rfl ?_
    refine Go.iload D (pc' := 138) at_136 rfl rfl ?_
    refine Go.iloadN D (pc' := 139) at_138 rfl rfl ?_
    refine Go.iload D (pc' := 141) at_139 rfl rfl ?_
    refine Go.iload D (pc' := 143) at_141 rfl rfl ?_
    refine Go.iload D (pc' := 145) at_143 rfl rfl ?_
    refine Go.callS D (argsL := [(.int (0 : Int32)), (.int ls), (.int lg), (.int p0), (.int p1), (.int q0), (.int q1)]) (rest := [(.int ((resV (scV ls p0 p1) (scV lg q0 q1)).getD 0 (-1)))]) (pc' := 148) (ce' := 27) (sl' := 310) (con_exp l Z a0 hw h95 n0 (some L95) (0 : Int32) ls lg p0 p1 q0 q1) (hw _ (List.mem_of_getElem? (i := 199) rfl)) (hw _ (List.mem_of_getElem? (i := 200) rfl)) (hw _ (List.mem_of_getElem? (i := 5) rfl)) (hw _ (List.mem_of_getElem? (i := 201) rfl)) (by decide) at_145 rfl pd38 rfl rfl rfl (by decide) (W := 1) rfl (by decide) (by decide) (by decide) (by decide) (by decide) ?_
    intro v145 h145 σ145 q145
    obtain ⟨rfl, rfl, rfl⟩ := q145
    show Go κ (some L95) h95 27 310 148 #[.val (.int i0), .val (.int i1), .val (.int i2), .val (.int p0), .val (.int p1), .val (.int q0), .val (.int q1), .val (.int ls), .val (.int lg), .val (.ref s1), .val (.ref s2), .val (.ref r), .val (.int (1 : Int32))] [(.int (expV (0 : Int32) ls lg p0 p1 q0 q1)), (.int ((resV (scV ls p0 p1) (scV lg q0 q1)).getD 0 (-1)))]
    refine Go.icmp D (pc' := 155) (pc2 := 151) at_148 (by decide) (by decide) rfl ?_ ?_
    · intro (hc148 : ¬ ((resV (scV ls p0 p1) (scV lg q0 q1)).getD 0 (-1)) = (expV (0 : Int32) ls lg p0 p1 q0 q1))
      exact absurd (own_resAt hls hlg 0 (by decide)) hc148
    · intro (hc148 : ((resV (scV ls p0 p1) (scV lg q0 q1)).getD 0 (-1)) = (expV (0 : Int32) ls lg p0 p1 q0 q1))
      refine Go.iconst D (pc' := 152) at_151 rfl (v := (1 : Int32)) rfl ?_
      refine Go.goto D (pc' := 156) at_152 (by decide) (by decide) ?_
      refine Go.istore D (pc' := 158) at_156 rfl (ls' := #[.val (.int i0), .val (.int i1), .val (.int i2), .val (.int p0), .val (.int p1), .val (.int q0), .val (.int q1), .val (.int ls), .val (.int lg), .val (.ref s1), .val (.ref s2), .val (.ref r), .val (.int (1 : Int32))]) rfl ?_
      refine Go.iload D (pc' := 160) at_158 rfl rfl ?_
      refine Go.ifc D (pc' := 191) (pc2 := 163) at_160 (by decide) (by decide) rfl (fun (hc : (1 : Int32) = 0) => absurd hc (by decide)) (fun _ => ?_)
      refine Go.aload D (pc' := 165) at_163 rfl rfl rfl ?_
      refine Go.iconst D (pc' := 166) at_165 rfl (v := (1 : Int32)) rfl ?_
      refine Go.callS D (argsL := [(.ref r), (.int (1 : Int32))]) (rest := []) (pc' := 169) (ce' := 27) (sl' := 310) (con_at l Z a0 hw h95 n0 (some L95) r _ Sr 1 (by decide) cz hcz O2 fm rf O4) (hw _ (List.mem_of_getElem? (i := 174) rfl)) (hw _ (List.mem_of_getElem? (i := 175) rfl)) (hw _ (List.mem_of_getElem? (i := 5) rfl)) (hw _ (List.mem_of_getElem? (i := 176) rfl)) (by decide) at_166 rfl pd32 rfl rfl rfl (by decide) (W := 0) rfl (by decide) (by decide) (by decide) (by decide) (by decide) ?_
      intro v166 h166 σ166 q166
      obtain ⟨rfl, rfl, rfl⟩ := q166
      show Go κ (some L95) h95 27 310 169 #[.val (.int i0), .val (.int i1), .val (.int i2), .val (.int p0), .val (.int p1), .val (.int q0), .val (.int q1), .val (.int ls), .val (.int lg), .val (.ref s1), .val (.ref s2), .val (.ref r), .val (.int (1 : Int32))] [(.int ((resV (scV ls p0 p1) (scV lg q0 q1)).getD 1 (-1)))]
      refine Go.iconst D (pc' := 170) at_169 rfl (v := (1 : Int32)) rfl ?_
      refine Go.iload D (pc' := 172) at_170 rfl rfl ?_
      refine Go.iload D (pc' := 174) at_172 rfl rfl ?_
      refine Go.iloadN D (pc' := 175) at_174 rfl rfl ?_
      refine Go.iload D (pc' := 177) at_175 rfl rfl ?_
      refine Go.iload D (pc' := 179) at_177 rfl rfl ?_
      refine Go.iload D (pc' := 181) at_179 rfl rfl ?_
      refine Go.callS D (argsL := [(.int (1 : Int32)), (.int ls), (.int lg), (.int p0), (.int p1), (.int q0), (.int q1)]) (rest := [(.int ((resV (scV ls p0 p1) (scV lg q0 q1)).getD 1 (-1)))]) (pc' := 184) (ce' := 27) (sl' := 310) (con_exp l Z a0 hw h95 n0 (some L95) (1 : Int32) ls lg p0 p1 q0 q1) (hw _ (List.mem_of_getElem? (i := 199) rfl)) (hw _ (List.mem_of_getElem? (i := 200) rfl)) (hw _ (List.mem_of_getElem? (i := 5) rfl)) (hw _ (List.mem_of_getElem? (i := 201) rfl)) (by decide) at_181 rfl pd38 rfl rfl rfl (by decide) (W := 1) rfl (by decide) (by decide) (by decide) (by decide) (by decide) ?_
      intro v181 h181 σ181 q181
      obtain ⟨rfl, rfl, rfl⟩ := q181
      show Go κ (some L95) h95 27 310 184 #[.val (.int i0), .val (.int i1), .val (.int i2), .val (.int p0), .val (.int p1), .val (.int q0), .val (.int q1), .val (.int ls), .val (.int lg), .val (.ref s1), .val (.ref s2), .val (.ref r), .val (.int (1 : Int32))] [(.int (expV (1 : Int32) ls lg p0 p1 q0 q1)), (.int ((resV (scV ls p0 p1) (scV lg q0 q1)).getD 1 (-1)))]
      refine Go.icmp D (pc' := 191) (pc2 := 187) at_184 (by decide) (by decide) rfl ?_ ?_
      · intro (hc184 : ¬ ((resV (scV ls p0 p1) (scV lg q0 q1)).getD 1 (-1)) = (expV (1 : Int32) ls lg p0 p1 q0 q1))
        exact absurd (own_resAt hls hlg 1 (by decide)) hc184
      · intro (hc184 : ((resV (scV ls p0 p1) (scV lg q0 q1)).getD 1 (-1)) = (expV (1 : Int32) ls lg p0 p1 q0 q1))
        refine Go.iconst D (pc' := 188) at_187 rfl (v := (1 : Int32)) rfl ?_
        refine Go.goto D (pc' := 192) at_188 (by decide) (by decide) ?_
        refine Go.istore D (pc' := 194) at_192 rfl (ls' := #[.val (.int i0), .val (.int i1), .val (.int i2), .val (.int p0), .val (.int p1), .val (.int q0), .val (.int q1), .val (.int ls), .val (.int lg), .val (.ref s1), .val (.ref s2), .val (.ref r), .val (.int (1 : Int32))]) rfl ?_
        refine Go.iload D (pc' := 196) at_194 rfl rfl ?_
        refine Go.ifc D (pc' := 227) (pc2 := 199) at_196 (by decide) (by decide) rfl (fun (hc : (1 : Int32) = 0) => absurd hc (by decide)) (fun _ => ?_)
        refine Go.aload D (pc' := 201) at_199 rfl rfl rfl ?_
        refine Go.iconst D (pc' := 202) at_201 rfl (v := (2 : Int32)) rfl ?_
        refine Go.callS D (argsL := [(.ref r), (.int (2 : Int32))]) (rest := []) (pc' := 205) (ce' := 27) (sl' := 310) (con_at l Z a0 hw h95 n0 (some L95) r _ Sr 2 (by decide) cz hcz O2 fm rf O4) (hw _ (List.mem_of_getElem? (i := 174) rfl)) (hw _ (List.mem_of_getElem? (i := 175) rfl)) (hw _ (List.mem_of_getElem? (i := 5) rfl)) (hw _ (List.mem_of_getElem? (i := 176) rfl)) (by decide) at_202 rfl pd32 rfl rfl rfl (by decide) (W := 0) rfl (by decide) (by decide) (by decide) (by decide) (by decide) ?_
        intro v202 h202 σ202 q202
        obtain ⟨rfl, rfl, rfl⟩ := q202
        show Go κ (some L95) h95 27 310 205 #[.val (.int i0), .val (.int i1), .val (.int i2), .val (.int p0), .val (.int p1), .val (.int q0), .val (.int q1), .val (.int ls), .val (.int lg), .val (.ref s1), .val (.ref s2), .val (.ref r), .val (.int (1 : Int32))] [(.int ((resV (scV ls p0 p1) (scV lg q0 q1)).getD 2 (-1)))]
        refine Go.iconst D (pc' := 206) at_205 rfl (v := (2 : Int32)) rfl ?_
        refine Go.iload D (pc' := 208) at_206 rfl rfl ?_
        refine Go.iload D (pc' := 210) at_208 rfl rfl ?_
        refine Go.iloadN D (pc' := 211) at_210 rfl rfl ?_
        refine Go.iload D (pc' := 213) at_211 rfl rfl ?_
        refine Go.iload D (pc' := 215) at_213 rfl rfl ?_
        refine Go.iload D (pc' := 217) at_215 rfl rfl ?_
        refine Go.callS D (argsL := [(.int (2 : Int32)), (.int ls), (.int lg), (.int p0), (.int p1), (.int q0), (.int q1)]) (rest := [(.int ((resV (scV ls p0 p1) (scV lg q0 q1)).getD 2 (-1)))]) (pc' := 220) (ce' := 27) (sl' := 310) (con_exp l Z a0 hw h95 n0 (some L95) (2 : Int32) ls lg p0 p1 q0 q1) (hw _ (List.mem_of_getElem? (i := 199) rfl)) (hw _ (List.mem_of_getElem? (i := 200) rfl)) (hw _ (List.mem_of_getElem? (i := 5) rfl)) (hw _ (List.mem_of_getElem? (i := 201) rfl)) (by decide) at_217 rfl pd38 rfl rfl rfl (by decide) (W := 1) rfl (by decide) (by decide) (by decide) (by decide) (by decide) ?_
        intro v217 h217 σ217 q217
        obtain ⟨rfl, rfl, rfl⟩ := q217
        show Go κ (some L95) h95 27 310 220 #[.val (.int i0), .val (.int i1), .val (.int i2), .val (.int p0), .val (.int p1), .val (.int q0), .val (.int q1), .val (.int ls), .val (.int lg), .val (.ref s1), .val (.ref s2), .val (.ref r), .val (.int (1 : Int32))] [(.int (expV (2 : Int32) ls lg p0 p1 q0 q1)), (.int ((resV (scV ls p0 p1) (scV lg q0 q1)).getD 2 (-1)))]
        refine Go.icmp D (pc' := 227) (pc2 := 223) at_220 (by decide) (by decide) rfl ?_ ?_
        · intro (hc220 : ¬ ((resV (scV ls p0 p1) (scV lg q0 q1)).getD 2 (-1)) = (expV (2 : Int32) ls lg p0 p1 q0 q1))
          exact absurd (own_resAt hls hlg 2 (by decide)) hc220
        · intro (hc220 : ((resV (scV ls p0 p1) (scV lg q0 q1)).getD 2 (-1)) = (expV (2 : Int32) ls lg p0 p1 q0 q1))
          refine Go.iconst D (pc' := 224) at_223 rfl (v := (1 : Int32)) rfl ?_
          refine Go.goto D (pc' := 228) at_224 (by decide) (by decide) ?_
          refine Go.istore D (pc' := 230) at_228 rfl (ls' := #[.val (.int i0), .val (.int i1), .val (.int i2), .val (.int p0), .val (.int p1), .val (.int q0), .val (.int q1), .val (.int ls), .val (.int lg), .val (.ref s1), .val (.ref s2), .val (.ref r), .val (.int (1 : Int32))]) rfl ?_
          refine Go.iload D (pc' := 232) at_230 rfl rfl ?_
          refine Go.ifc D (pc' := 263) (pc2 := 235) at_232 (by decide) (by decide) rfl (fun (hc : (1 : Int32) = 0) => absurd hc (by decide)) (fun _ => ?_)
          refine Go.aload D (pc' := 237) at_235 rfl rfl rfl ?_
          refine Go.iconst D (pc' := 238) at_237 rfl (v := (3 : Int32)) rfl ?_
          refine Go.callS D (argsL := [(.ref r), (.int (3 : Int32))]) (rest := []) (pc' := 241) (ce' := 27) (sl' := 310) (con_at l Z a0 hw h95 n0 (some L95) r _ Sr 3 (by decide) cz hcz O2 fm rf O4) (hw _ (List.mem_of_getElem? (i := 174) rfl)) (hw _ (List.mem_of_getElem? (i := 175) rfl)) (hw _ (List.mem_of_getElem? (i := 5) rfl)) (hw _ (List.mem_of_getElem? (i := 176) rfl)) (by decide) at_238 rfl pd32 rfl rfl rfl (by decide) (W := 0) rfl (by decide) (by decide) (by decide) (by decide) (by decide) ?_
          intro v238 h238 σ238 q238
          obtain ⟨rfl, rfl, rfl⟩ := q238
          show Go κ (some L95) h95 27 310 241 #[.val (.int i0), .val (.int i1), .val (.int i2), .val (.int p0), .val (.int p1), .val (.int q0), .val (.int q1), .val (.int ls), .val (.int lg), .val (.ref s1), .val (.ref s2), .val (.ref r), .val (.int (1 : Int32))] [(.int ((resV (scV ls p0 p1) (scV lg q0 q1)).getD 3 (-1)))]
          refine Go.iconst D (pc' := 242) at_241 rfl (v := (3 : Int32)) rfl ?_
          refine Go.iload D (pc' := 244) at_242 rfl rfl ?_
          refine Go.iload D (pc' := 246) at_244 rfl rfl ?_
          refine Go.iloadN D (pc' := 247) at_246 rfl rfl ?_
          refine Go.iload D (pc' := 249) at_247 rfl rfl ?_
          refine Go.iload D (pc' := 251) at_249 rfl rfl ?_
          refine Go.iload D (pc' := 253) at_251 rfl rfl ?_
          refine Go.callS D (argsL := [(.int (3 : Int32)), (.int ls), (.int lg), (.int p0), (.int p1), (.int q0), (.int q1)]) (rest := [(.int ((resV (scV ls p0 p1) (scV lg q0 q1)).getD 3 (-1)))]) (pc' := 256) (ce' := 27) (sl' := 310) (con_exp l Z a0 hw h95 n0 (some L95) (3 : Int32) ls lg p0 p1 q0 q1) (hw _ (List.mem_of_getElem? (i := 199) rfl)) (hw _ (List.mem_of_getElem? (i := 200) rfl)) (hw _ (List.mem_of_getElem? (i := 5) rfl)) (hw _ (List.mem_of_getElem? (i := 201) rfl)) (by decide) at_253 rfl pd38 rfl rfl rfl (by decide) (W := 1) rfl (by decide) (by decide) (by decide) (by decide) (by decide) ?_
          intro v253 h253 σ253 q253
          obtain ⟨rfl, rfl, rfl⟩ := q253
          show Go κ (some L95) h95 27 310 256 #[.val (.int i0), .val (.int i1), .val (.int i2), .val (.int p0), .val (.int p1), .val (.int q0), .val (.int q1), .val (.int ls), .val (.int lg), .val (.ref s1), .val (.ref s2), .val (.ref r), .val (.int (1 : Int32))] [(.int (expV (3 : Int32) ls lg p0 p1 q0 q1)), (.int ((resV (scV ls p0 p1) (scV lg q0 q1)).getD 3 (-1)))]
          refine Go.icmp D (pc' := 263) (pc2 := 259) at_256 (by decide) (by decide) rfl ?_ ?_
          · intro (hc256 : ¬ ((resV (scV ls p0 p1) (scV lg q0 q1)).getD 3 (-1)) = (expV (3 : Int32) ls lg p0 p1 q0 q1))
            exact absurd (own_resAt hls hlg 3 (by decide)) hc256
          · intro (hc256 : ((resV (scV ls p0 p1) (scV lg q0 q1)).getD 3 (-1)) = (expV (3 : Int32) ls lg p0 p1 q0 q1))
            refine Go.iconst D (pc' := 260) at_259 rfl (v := (1 : Int32)) rfl ?_
            refine Go.goto D (pc' := 264) at_260 (by decide) (by decide) ?_
            refine Go.istore D (pc' := 266) at_264 rfl (ls' := #[.val (.int i0), .val (.int i1), .val (.int i2), .val (.int p0), .val (.int p1), .val (.int q0), .val (.int q1), .val (.int ls), .val (.int lg), .val (.ref s1), .val (.ref s2), .val (.ref r), .val (.int (1 : Int32))]) rfl ?_
            refine Go.iload D (pc' := 268) at_266 rfl rfl ?_
            refine Go.ifc D (pc' := 299) (pc2 := 271) at_268 (by decide) (by decide) rfl (fun (hc : (1 : Int32) = 0) => absurd hc (by decide)) (fun _ => ?_)
            refine Go.aload D (pc' := 273) at_271 rfl rfl rfl ?_
            refine Go.iconst D (pc' := 274) at_273 rfl (v := (4 : Int32)) rfl ?_
            refine Go.callS D (argsL := [(.ref r), (.int (4 : Int32))]) (rest := []) (pc' := 277) (ce' := 27) (sl' := 310) (con_at l Z a0 hw h95 n0 (some L95) r _ Sr 4 (by decide) cz hcz O2 fm rf O4) (hw _ (List.mem_of_getElem? (i := 174) rfl)) (hw _ (List.mem_of_getElem? (i := 175) rfl)) (hw _ (List.mem_of_getElem? (i := 5) rfl)) (hw _ (List.mem_of_getElem? (i := 176) rfl)) (by decide) at_274 rfl pd32 rfl rfl rfl (by decide) (W := 0) rfl (by decide) (by decide) (by decide) (by decide) (by decide) ?_
            intro v274 h274 σ274 q274
            obtain ⟨rfl, rfl, rfl⟩ := q274
            show Go κ (some L95) h95 27 310 277 #[.val (.int i0), .val (.int i1), .val (.int i2), .val (.int p0), .val (.int p1), .val (.int q0), .val (.int q1), .val (.int ls), .val (.int lg), .val (.ref s1), .val (.ref s2), .val (.ref r), .val (.int (1 : Int32))] [(.int ((resV (scV ls p0 p1) (scV lg q0 q1)).getD 4 (-1)))]
            refine Go.iconst D (pc' := 278) at_277 rfl (v := (4 : Int32)) rfl ?_
            refine Go.iload D (pc' := 280) at_278 rfl rfl ?_
            refine Go.iload D (pc' := 282) at_280 rfl rfl ?_
            refine Go.iloadN D (pc' := 283) at_282 rfl rfl ?_
            refine Go.iload D (pc' := 285) at_283 rfl rfl ?_
            refine Go.iload D (pc' := 287) at_285 rfl rfl ?_
            refine Go.iload D (pc' := 289) at_287 rfl rfl ?_
            refine Go.callS D (argsL := [(.int (4 : Int32)), (.int ls), (.int lg), (.int p0), (.int p1), (.int q0), (.int q1)]) (rest := [(.int ((resV (scV ls p0 p1) (scV lg q0 q1)).getD 4 (-1)))]) (pc' := 292) (ce' := 27) (sl' := 310) (con_exp l Z a0 hw h95 n0 (some L95) (4 : Int32) ls lg p0 p1 q0 q1) (hw _ (List.mem_of_getElem? (i := 199) rfl)) (hw _ (List.mem_of_getElem? (i := 200) rfl)) (hw _ (List.mem_of_getElem? (i := 5) rfl)) (hw _ (List.mem_of_getElem? (i := 201) rfl)) (by decide) at_289 rfl pd38 rfl rfl rfl (by decide) (W := 1) rfl (by decide) (by decide) (by decide) (by decide) (by decide) ?_
            intro v289 h289 σ289 q289
            obtain ⟨rfl, rfl, rfl⟩ := q289
            show Go κ (some L95) h95 27 310 292 #[.val (.int i0), .val (.int i1), .val (.int i2), .val (.int p0), .val (.int p1), .val (.int q0), .val (.int q1), .val (.int ls), .val (.int lg), .val (.ref s1), .val (.ref s2), .val (.ref r), .val (.int (1 : Int32))] [(.int (expV (4 : Int32) ls lg p0 p1 q0 q1)), (.int ((resV (scV ls p0 p1) (scV lg q0 q1)).getD 4 (-1)))]
            refine Go.icmp D (pc' := 299) (pc2 := 295) at_292 (by decide) (by decide) rfl ?_ ?_
            · intro (hc292 : ¬ ((resV (scV ls p0 p1) (scV lg q0 q1)).getD 4 (-1)) = (expV (4 : Int32) ls lg p0 p1 q0 q1))
              exact absurd (own_resAt hls hlg 4 (by decide)) hc292
            · intro (hc292 : ((resV (scV ls p0 p1) (scV lg q0 q1)).getD 4 (-1)) = (expV (4 : Int32) ls lg p0 p1 q0 q1))
              refine Go.iconst D (pc' := 296) at_295 rfl (v := (1 : Int32)) rfl ?_
              refine Go.goto D (pc' := 300) at_296 (by decide) (by decide) ?_
              refine Go.istore D (pc' := 302) at_300 rfl (ls' := #[.val (.int i0), .val (.int i1), .val (.int i2), .val (.int p0), .val (.int p1), .val (.int q0), .val (.int q1), .val (.int ls), .val (.int lg), .val (.ref s1), .val (.ref s2), .val (.ref r), .val (.int (1 : Int32))]) rfl ?_
              refine Go.iload D (pc' := 304) at_302 rfl rfl ?_
              refine Go.ifc D (pc' := 335) (pc2 := 307) at_304 (by decide) (by decide) rfl (fun (hc : (1 : Int32) = 0) => absurd hc (by decide)) (fun _ => ?_)
              refine Go.aload D (pc' := 309) at_307 rfl rfl rfl ?_
              refine Go.iconst D (pc' := 310) at_309 rfl (v := (5 : Int32)) rfl ?_
              refine Go.callS D (argsL := [(.ref r), (.int (5 : Int32))]) (rest := []) (pc' := 313) (ce' := 27) (sl' := 310) (con_at l Z a0 hw h95 n0 (some L95) r _ Sr 5 (by decide) cz hcz O2 fm rf O4) (hw _ (List.mem_of_getElem? (i := 174) rfl)) (hw _ (List.mem_of_getElem? (i := 175) rfl)) (hw _ (List.mem_of_getElem? (i := 5) rfl)) (hw _ (List.mem_of_getElem? (i := 176) rfl)) (by decide) at_310 rfl pd32 rfl rfl rfl (by decide) (W := 0) rfl (by decide) (by decide) (by decide) (by decide) (by decide) ?_
              intro v310 h310 σ310 q310
              obtain ⟨rfl, rfl, rfl⟩ := q310
              show Go κ (some L95) h95 27 310 313 #[.val (.int i0), .val (.int i1), .val (.int i2), .val (.int p0), .val (.int p1), .val (.int q0), .val (.int q1), .val (.int ls), .val (.int lg), .val (.ref s1), .val (.ref s2), .val (.ref r), .val (.int (1 : Int32))] [(.int ((resV (scV ls p0 p1) (scV lg q0 q1)).getD 5 (-1)))]
              refine Go.iconst D (pc' := 314) at_313 rfl (v := (5 : Int32)) rfl ?_
              refine Go.iload D (pc' := 316) at_314 rfl rfl ?_
              refine Go.iload D (pc' := 318) at_316 rfl rfl ?_
              refine Go.iloadN D (pc' := 319) at_318 rfl rfl ?_
              refine Go.iload D (pc' := 321) at_319 rfl rfl ?_
              refine Go.iload D (pc' := 323) at_321 rfl rfl ?_
              refine Go.iload D (pc' := 325) at_323 rfl rfl ?_
              refine Go.callS D (argsL := [(.int (5 : Int32)), (.int ls), (.int lg), (.int p0), (.int p1), (.int q0), (.int q1)]) (rest := [(.int ((resV (scV ls p0 p1) (scV lg q0 q1)).getD 5 (-1)))]) (pc' := 328) (ce' := 27) (sl' := 310) (con_exp l Z a0 hw h95 n0 (some L95) (5 : Int32) ls lg p0 p1 q0 q1) (hw _ (List.mem_of_getElem? (i := 199) rfl)) (hw _ (List.mem_of_getElem? (i := 200) rfl)) (hw _ (List.mem_of_getElem? (i := 5) rfl)) (hw _ (List.mem_of_getElem? (i := 201) rfl)) (by decide) at_325 rfl pd38 rfl rfl rfl (by decide) (W := 1) rfl (by decide) (by decide) (by decide) (by decide) (by decide) ?_
              intro v325 h325 σ325 q325
              obtain ⟨rfl, rfl, rfl⟩ := q325
              show Go κ (some L95) h95 27 310 328 #[.val (.int i0), .val (.int i1), .val (.int i2), .val (.int p0), .val (.int p1), .val (.int q0), .val (.int q1), .val (.int ls), .val (.int lg), .val (.ref s1), .val (.ref s2), .val (.ref r), .val (.int (1 : Int32))] [(.int (expV (5 : Int32) ls lg p0 p1 q0 q1)), (.int ((resV (scV ls p0 p1) (scV lg q0 q1)).getD 5 (-1)))]
              refine Go.icmp D (pc' := 335) (pc2 := 331) at_328 (by decide) (by decide) rfl ?_ ?_
              · intro (hc328 : ¬ ((resV (scV ls p0 p1) (scV lg q0 q1)).getD 5 (-1)) = (expV (5 : Int32) ls lg p0 p1 q0 q1))
                exact absurd (own_resAt hls hlg 5 (by decide)) hc328
              · intro (hc328 : ((resV (scV ls p0 p1) (scV lg q0 q1)).getD 5 (-1)) = (expV (5 : Int32) ls lg p0 p1 q0 q1))
                refine Go.iconst D (pc' := 332) at_331 rfl (v := (1 : Int32)) rfl ?_
                refine Go.goto D (pc' := 336) at_332 (by decide) (by decide) ?_
                refine Go.istore D (pc' := 338) at_336 rfl (ls' := #[.val (.int i0), .val (.int i1), .val (.int i2), .val (.int p0), .val (.int p1), .val (.int q0), .val (.int q1), .val (.int ls), .val (.int lg), .val (.ref s1), .val (.ref s2), .val (.ref r), .val (.int (1 : Int32))]) rfl ?_
                refine Go.iload D (pc' := 340) at_338 rfl rfl ?_
                refine Go.ifc D (pc' := 373) (pc2 := 343) at_340 (by decide) (by decide) rfl (fun (hc : (1 : Int32) = 0) => absurd hc (by decide)) (fun _ => ?_)
                refine Go.aload D (pc' := 345) at_343 rfl rfl rfl ?_
                refine Go.bipush D (pc' := 347) at_345 rfl (v := (6 : Int32)) rfl ?_
                refine Go.callS D (argsL := [(.ref r), (.int (6 : Int32))]) (rest := []) (pc' := 350) (ce' := 27) (sl' := 310) (con_at l Z a0 hw h95 n0 (some L95) r _ Sr 6 (by decide) cz hcz O2 fm rf O4) (hw _ (List.mem_of_getElem? (i := 174) rfl)) (hw _ (List.mem_of_getElem? (i := 175) rfl)) (hw _ (List.mem_of_getElem? (i := 5) rfl)) (hw _ (List.mem_of_getElem? (i := 176) rfl)) (by decide) at_347 rfl pd32 rfl rfl rfl (by decide) (W := 0) rfl (by decide) (by decide) (by decide) (by decide) (by decide) ?_
                intro v347 h347 σ347 q347
                obtain ⟨rfl, rfl, rfl⟩ := q347
                show Go κ (some L95) h95 27 310 350 #[.val (.int i0), .val (.int i1), .val (.int i2), .val (.int p0), .val (.int p1), .val (.int q0), .val (.int q1), .val (.int ls), .val (.int lg), .val (.ref s1), .val (.ref s2), .val (.ref r), .val (.int (1 : Int32))] [(.int ((resV (scV ls p0 p1) (scV lg q0 q1)).getD 6 (-1)))]
                refine Go.bipush D (pc' := 352) at_350 rfl (v := (6 : Int32)) rfl ?_
                refine Go.iload D (pc' := 354) at_352 rfl rfl ?_
                refine Go.iload D (pc' := 356) at_354 rfl rfl ?_
                refine Go.iloadN D (pc' := 357) at_356 rfl rfl ?_
                refine Go.iload D (pc' := 359) at_357 rfl rfl ?_
                refine Go.iload D (pc' := 361) at_359 rfl rfl ?_
                refine Go.iload D (pc' := 363) at_361 rfl rfl ?_
                refine Go.callS D (argsL := [(.int (6 : Int32)), (.int ls), (.int lg), (.int p0), (.int p1), (.int q0), (.int q1)]) (rest := [(.int ((resV (scV ls p0 p1) (scV lg q0 q1)).getD 6 (-1)))]) (pc' := 366) (ce' := 27) (sl' := 310) (con_exp l Z a0 hw h95 n0 (some L95) (6 : Int32) ls lg p0 p1 q0 q1) (hw _ (List.mem_of_getElem? (i := 199) rfl)) (hw _ (List.mem_of_getElem? (i := 200) rfl)) (hw _ (List.mem_of_getElem? (i := 5) rfl)) (hw _ (List.mem_of_getElem? (i := 201) rfl)) (by decide) at_363 rfl pd38 rfl rfl rfl (by decide) (W := 1) rfl (by decide) (by decide) (by decide) (by decide) (by decide) ?_
                intro v363 h363 σ363 q363
                obtain ⟨rfl, rfl, rfl⟩ := q363
                show Go κ (some L95) h95 27 310 366 #[.val (.int i0), .val (.int i1), .val (.int i2), .val (.int p0), .val (.int p1), .val (.int q0), .val (.int q1), .val (.int ls), .val (.int lg), .val (.ref s1), .val (.ref s2), .val (.ref r), .val (.int (1 : Int32))] [(.int (expV (6 : Int32) ls lg p0 p1 q0 q1)), (.int ((resV (scV ls p0 p1) (scV lg q0 q1)).getD 6 (-1)))]
                refine Go.icmp D (pc' := 373) (pc2 := 369) at_366 (by decide) (by decide) rfl ?_ ?_
                · intro (hc366 : ¬ ((resV (scV ls p0 p1) (scV lg q0 q1)).getD 6 (-1)) = (expV (6 : Int32) ls lg p0 p1 q0 q1))
                  exact absurd (own_resAt hls hlg 6 (by decide)) hc366
                · intro (hc366 : ((resV (scV ls p0 p1) (scV lg q0 q1)).getD 6 (-1)) = (expV (6 : Int32) ls lg p0 p1 q0 q1))
                  refine Go.iconst D (pc' := 370) at_369 rfl (v := (1 : Int32)) rfl ?_
                  refine Go.goto D (pc' := 374) at_370 (by decide) (by decide) ?_
                  refine Go.istore D (pc' := 376) at_374 rfl (ls' := #[.val (.int i0), .val (.int i1), .val (.int i2), .val (.int p0), .val (.int p1), .val (.int q0), .val (.int q1), .val (.int ls), .val (.int lg), .val (.ref s1), .val (.ref s2), .val (.ref r), .val (.int (1 : Int32))]) rfl ?_
                  refine Go.iload D (pc' := 378) at_376 rfl rfl ?_
                  refine Go.ifc D (pc' := 411) (pc2 := 381) at_378 (by decide) (by decide) rfl (fun (hc : (1 : Int32) = 0) => absurd hc (by decide)) (fun _ => ?_)
                  refine Go.aload D (pc' := 383) at_381 rfl rfl rfl ?_
                  refine Go.bipush D (pc' := 385) at_383 rfl (v := (7 : Int32)) rfl ?_
                  refine Go.callS D (argsL := [(.ref r), (.int (7 : Int32))]) (rest := []) (pc' := 388) (ce' := 27) (sl' := 310) (con_at l Z a0 hw h95 n0 (some L95) r _ Sr 7 (by decide) cz hcz O2 fm rf O4) (hw _ (List.mem_of_getElem? (i := 174) rfl)) (hw _ (List.mem_of_getElem? (i := 175) rfl)) (hw _ (List.mem_of_getElem? (i := 5) rfl)) (hw _ (List.mem_of_getElem? (i := 176) rfl)) (by decide) at_385 rfl pd32 rfl rfl rfl (by decide) (W := 0) rfl (by decide) (by decide) (by decide) (by decide) (by decide) ?_
                  intro v385 h385 σ385 q385
                  obtain ⟨rfl, rfl, rfl⟩ := q385
                  show Go κ (some L95) h95 27 310 388 #[.val (.int i0), .val (.int i1), .val (.int i2), .val (.int p0), .val (.int p1), .val (.int q0), .val (.int q1), .val (.int ls), .val (.int lg), .val (.ref s1), .val (.ref s2), .val (.ref r), .val (.int (1 : Int32))] [(.int ((resV (scV ls p0 p1) (scV lg q0 q1)).getD 7 (-1)))]
                  refine Go.bipush D (pc' := 390) at_388 rfl (v := (7 : Int32)) rfl ?_
                  refine Go.iload D (pc' := 392) at_390 rfl rfl ?_
                  refine Go.iload D (pc' := 394) at_392 rfl rfl ?_
                  refine Go.iloadN D (pc' := 395) at_394 rfl rfl ?_
                  refine Go.iload D (pc' := 397) at_395 rfl rfl ?_
                  refine Go.iload D (pc' := 399) at_397 rfl rfl ?_
                  refine Go.iload D (pc' := 401) at_399 rfl rfl ?_
                  refine Go.callS D (argsL := [(.int (7 : Int32)), (.int ls), (.int lg), (.int p0), (.int p1), (.int q0), (.int q1)]) (rest := [(.int ((resV (scV ls p0 p1) (scV lg q0 q1)).getD 7 (-1)))]) (pc' := 404) (ce' := 27) (sl' := 310) (con_exp l Z a0 hw h95 n0 (some L95) (7 : Int32) ls lg p0 p1 q0 q1) (hw _ (List.mem_of_getElem? (i := 199) rfl)) (hw _ (List.mem_of_getElem? (i := 200) rfl)) (hw _ (List.mem_of_getElem? (i := 5) rfl)) (hw _ (List.mem_of_getElem? (i := 201) rfl)) (by decide) at_401 rfl pd38 rfl rfl rfl (by decide) (W := 1) rfl (by decide) (by decide) (by decide) (by decide) (by decide) ?_
                  intro v401 h401 σ401 q401
                  obtain ⟨rfl, rfl, rfl⟩ := q401
                  show Go κ (some L95) h95 27 310 404 #[.val (.int i0), .val (.int i1), .val (.int i2), .val (.int p0), .val (.int p1), .val (.int q0), .val (.int q1), .val (.int ls), .val (.int lg), .val (.ref s1), .val (.ref s2), .val (.ref r), .val (.int (1 : Int32))] [(.int (expV (7 : Int32) ls lg p0 p1 q0 q1)), (.int ((resV (scV ls p0 p1) (scV lg q0 q1)).getD 7 (-1)))]
                  refine Go.icmp D (pc' := 411) (pc2 := 407) at_404 (by decide) (by decide) rfl ?_ ?_
                  · intro (hc404 : ¬ ((resV (scV ls p0 p1) (scV lg q0 q1)).getD 7 (-1)) = (expV (7 : Int32) ls lg p0 p1 q0 q1))
                    exact absurd (own_resAt hls hlg 7 (by decide)) hc404
                  · intro (hc404 : ((resV (scV ls p0 p1) (scV lg q0 q1)).getD 7 (-1)) = (expV (7 : Int32) ls lg p0 p1 q0 q1))
                    refine Go.iconst D (pc' := 408) at_407 rfl (v := (1 : Int32)) rfl ?_
                    refine Go.goto D (pc' := 412) at_408 (by decide) (by decide) ?_
                    refine Go.istore D (pc' := 414) at_412 rfl (ls' := #[.val (.int i0), .val (.int i1), .val (.int i2), .val (.int p0), .val (.int p1), .val (.int q0), .val (.int q1), .val (.int ls), .val (.int lg), .val (.ref s1), .val (.ref s2), .val (.ref r), .val (.int (1 : Int32))]) rfl ?_
                    refine Go.iload D (pc' := 416) at_414 rfl rfl ?_
                    refine Go.zret D rfl rfl at_416 (by decide) (by decide) ?_
                    exact rfl
set_option maxRecDepth 65536 in
set_option maxHeartbeats 40000000 in
theorem comes_1 {Post : Tables → Env → Array Value → State → Outcome → State → Prop} (hpost : ∀ tb e args s v u, (limb_1_1.after args s (.returned v) u = true ∧ limb_1_2.after args s (.returned v) u = true ∧ True) → Jvm.D.FramedW s (.returned v) u (Jvm.fieldLocs frame_1_writes args s ++ Jvm.arrayLocs frame_1_arrays args s ++ Jvm.staticLocs frame_1_statics s) 48 6336 → Post tb e args s (.returned v) u) :
    ArmFor flags0 classFile x code maxLocals ret World_1 tables_1 room_1 Calls_1 rest_1 Pre_1 Post := by
  intro l hfl _ _ p e ha hc hk s m args below hf hA hF happ hP
  obtain ⟨hcalls, hrest, hpre⟩ := hP
  obtain ⟨-, -, -, hnamed, -, -, -, hat⟩ := (Spec.applies_iff hf).mp happ
  obtain ⟨hg, hn⟩ := and_e (Cond.before_iff.mp (show (Jvm.Cond.and given_1 narrow_1).before args s = true from hpre))
  obtain ⟨h1, k0⟩ := and_e hg
  obtain ⟨j0, k1⟩ := and_e k0
  obtain ⟨j1, k2⟩ := and_e k1
  obtain ⟨w0, w1, w2, rfl⟩ : ∃ w0 w1 w2 : Value, args = #[w0, w1, w2] := by
    have hs : args.size = 3 := by simpa [Cond.value, given_1] using h1
    obtain ⟨L⟩ := args
    match L, hs with
    | [w0, w1, w2], _ => exact ⟨w0, w1, w2, rfl⟩
  have hw := fun d (hd : d ∈ tables_1) => atoms_spec (ws := Jvm.Cond.code x code maxLocals ret :: tables_1) hat d (List.mem_cons_of_mem _ hd)
  obtain ⟨i0, e0⟩ := is_v j0
  obtain rfl : w0 = (.int i0) := Option.some.inj e0
  obtain ⟨i1, e1⟩ := is_v j1
  obtain rfl : w1 = (.int i1) := Option.some.inj e1
  obtain ⟨i2, e2⟩ := is_v k2
  obtain rfl : w2 = (.int i2) := Option.some.inj e2
  obtain ⟨hsets, hown0⟩ := atoms_of _ (rest_1_c_eq ▸ (show rest_1_c.before _ s = true from hrest))
  have n3 := not_v (Cond.before_iff.mp (hsets _ (List.mem_of_getElem? (i := 2) rfl)))
  obtain ⟨i77, e77⟩ := is_v (Cond.before_iff.mp (hsets _ (List.mem_of_getElem? (i := 1) rfl)))
  have S8 : Sta s s.heap "java/lang/String" "COMPACT_STRINGS" "Z" (.int i77) := Sta.start e77 (Or.inl (hsets _ (List.mem_of_getElem? (i := 0) rfl)))
  have c13 : ¬ (i77 = (0 : Int32)) := gotF (Cond.eq_ints e77 (Term.int_eval (0))) n3
  have hcw : Jvm.Lit.compactW.before _ s = true := hsets _ (List.mem_of_getElem? (i := 2) rfl)

  obtain ⟨v9, e10, r11⟩ := isR_v (Cond.before_iff.mp (hsets _ (List.mem_of_getElem? (i := 8) rfl)))
  have S12 : Sta s s.heap "jdk/internal/util/Preconditions" "SIOOBE_FORMATTER" "Ljava/util/function/BiFunction;" v9 := Sta.start e10 (Or.inl (hsets _ (List.mem_of_getElem? (i := 7) rfl)))
  have hcs : ∀ q ∈ consts_1, Jvm.Lit.constHeld s q.1 q.2 := hcalls.1
  obtain ⟨n, o, g1, g2, g3, _, L, τ, rfl, ⟨N, -, -, rfl⟩, hq⟩ := con_law l s _ hw s.heap s.heap.size (Nat.le_refl _) hcw (hcs ("java/lang/String", 7) (by simp [consts_1])) i77 c13 S8 v9 r11 S12 (hcs ("com/example/per_group_sequences/pergroupsequences/CounterId", 7) (by simp [consts_1])) (hcs ("com/example/per_group_sequences/pergroupsequences/CounterId", 22) (by simp [consts_1])) (hcs ("com/example/per_group_sequences/pergroupsequences/CounterId", 37) (by simp [consts_1])) (hcs ("com/example/per_group_sequences/pergroupsequences/CounterId", 43) (by simp [consts_1])) (hcs ("com/example/per_group_sequences/pergroupsequences/CounterId", 45) (by simp [consts_1])) i0 i1 i2 p e ha hc hk s m _ below hf ((Spec.applies_iff_loose hf).mp happ).1 ⟨rfl, State.Warmed39.refl s, rfl, ⟨IB.start, fun q hq => nomatch hq⟩, Old.start s⟩ trivial
  refine ⟨n, _, g1, g2, g3, hpost _ _ _ _ _ _ ⟨Cond.after_iff.mpr rfl, Cond.after_iff.mpr (eq_i res_at (Term.int_eval (1)) rfl), trivial⟩ ⟨hq.1, hq.2.1, hq.2.2.1, (hq.2.2.2.sift fun y hy => Or.inr (N y hy)).mono (by decide) (by decide)⟩⟩
theorem main_1_1 : Claimed_1_1 := comes_1 fun _ _ _ _ _ _ h hF => ⟨h.1, hF⟩
theorem main_1_2 : Claimed_1_2 := comes_1 fun _ _ _ _ _ _ h hF => ⟨h.2.1, hF⟩

end Jvm.Pilot.@@N@@
namespace Jvm.Pilot.@@N@@
open Jvm Jvm.ClassFile Sem Op Lib Jvm.Free Jvm.Stand Jvm.Pilot.@@N@@.Jvm.D
/-! MADE BY PROGRAM (witnessworld.py) out of the Statement's table words and the real class files: 27 classes; the members and pool entries that the words name. The judged class is class 1, her method 4. -/
namespace start1
open Jvm.ClassFile
def u (s : String) : CpInfo := .utf8 (stringToUtf16 s)
/-- a pool by its gaps: so many unusable entries, then the entry; so many at the end -/
def gap : Nat → List CpInfo → List CpInfo
  | 0, r => r
  | n + 1, r => .unusable :: gap n r
def poolList (es : List (Nat × CpInfo)) (last : Nat) : List CpInfo := es.foldr (fun e r => gap e.1 (e.2 :: r)) (gap last [])
def pool (es : List (Nat × CpInfo)) (last : Nat) : Array CpInfo := ⟨poolList es last⟩
def fileOf (pool : Array CpInfo) (this : Nat) (attrs : Array Attribute := #[]) (ms : Array MethodInfo := #[]) (fl : Nat := 33) (sup : Nat := 0) (ifs : Array Nat := #[]) (fds : Array FieldInfo := #[]) : ClassFile where
  minorVersion := 0
  majorVersion := 65
  constantPool := pool
  accessFlags := fl
  thisClass := this
  superClass := sup
  interfaces := ifs
  fields := fds
  methods := ms
  attributes := attrs
def plain (name : String) (sup : Option ClassId) : Class where
  name := name
  kind := .ordinary
  loader := none
  accessFlags := 33
  super := sup
  interfaces := #[]
  cf := none
  fields := #[]
  methods := #[]
  instanceTypes := #[]
  staticTypes := #[]
  resolved := #[]
  callSites := []
  init := .initialized
  statics := none
  mirror := none

def pool0 : Array CpInfo := pool [(5, u "<init>"), (0, u "()V"), (1, .class_ 10), (1, u "java/lang/Object")] 113

def k0c0 : Code := { maxStack := 0, maxLocals := 1, code := object_method_1_code, exceptionTable := #[], attributes := #[] }
def k0m0 : Method := { name := "<init>", desc := "()V", sig := { parameters := [], returnType := none }, accessFlags := 1, code := some k0c0 }
/-- java/lang/Object -/
def k0 : Class := { plain "java/lang/Object" none with
  accessFlags := 33
  interfaces := #[]
  cf := some (fileOf pool0 8 #[] #[{ accessFlags := 1, nameIndex := 5, descriptorIndex := 6, attributes := #[] }] 33 0 #[] #[])
  fields := #[]
  methods := #[k0m0]
  instanceTypes := #[]
  staticTypes := #[]
  resolved := Array.replicate 124 none
  statics := none }

def pool1 : Array CpInfo := pool [(2, .class_ 4), (1, u "java/lang/Object"), (0, u "<init>"), (0, u "()V"), (0, .methodref 8 9), (0, .class_ 10), (0, .nameAndType 11 12), (0, u "java/lang/String"), (0, u "length"), (0, u "()I"), (0, .methodref 8 14), (0, .nameAndType 15 16), (0, u "charAt"), (0, u "(I)C"), (0, .methodref 18 19), (0, .class_ 20), (0, .nameAndType 21 22), (0, u "com/example/per_group_sequences/pergroupsequences/CounterIdToStringPinLaw"), (0, u "mk"), (0, u "(III)[C"), (0, .methodref 8 24), (0, .nameAndType 5 25), (0, u "([C)V"), (0, .class_ 27), (0, u "com/example/per_group_sequences/pergroupsequences/CounterId"), (0, .methodref 26 29), (0, .nameAndType 5 30), (0, u "(Ljava/lang/String;Ljava/lang/String;)V"), (0, .methodref 26 32), (0, .nameAndType 33 34), (0, u "toString"), (0, u "()Ljava/lang/String;"), (0, .methodref 18 36), (0, .nameAndType 37 38), (0, u "at"), (0, u "(Ljava/lang/String;I)I"), (0, .methodref 18 40), (0, .nameAndType 41 42), (0, u "exp"), (0, u "(IIIIIII)I"), (3, u "law"), (0, u "(III)Z")] 2

def k1m0 : Method := { name := "<init>", desc := "()V", sig := { parameters := [], returnType := none }, accessFlags := 1, code := none }
def k1c1 : Code := { maxStack := 3, maxLocals := 4, code := method_2_code, exceptionTable := #[], attributes := #[] }
def k1m1 : Method := { name := "mk", desc := "(III)[C", sig := { parameters := [.int, .int, .int], returnType := some (.array .char) }, accessFlags := 10, code := some k1c1 }
def k1c2 : Code := { maxStack := 3, maxLocals := 7, code := method_3_code, exceptionTable := #[], attributes := #[] }
def k1m2 : Method := { name := "exp", desc := "(IIIIIII)I", sig := { parameters := [.int, .int, .int, .int, .int, .int, .int], returnType := some .int }, accessFlags := 10, code := some k1c2 }
def k1c3 : Code := { maxStack := 2, maxLocals := 2, code := method_4_code, exceptionTable := #[], attributes := #[] }
def k1m3 : Method := { name := "at", desc := "(Ljava/lang/String;I)I", sig := { parameters := [(.object "java/lang/String"), .int], returnType := some .int }, accessFlags := 10, code := some k1c3 }
def k1c4 : Code := { maxStack := 8, maxLocals := 13, code := code, exceptionTable := #[], attributes := #[] }
def k1m4 : Method := { name := "law", desc := "(III)Z", sig := { parameters := [.int, .int, .int], returnType := some .boolean }, accessFlags := 9, code := some k1c4 }
/-- com/example/per_group_sequences/pergroupsequences/CounterIdToStringPinLaw -/
def k1 : Class := { plain "com/example/per_group_sequences/pergroupsequences/CounterIdToStringPinLaw" (some 0) with
  accessFlags := 49
  interfaces := #[]
  cf := some (fileOf pool1 18 #[] #[{ accessFlags := 1, nameIndex := 5, descriptorIndex := 6, attributes := #[] }, { accessFlags := 10, nameIndex := 21, descriptorIndex := 22, attributes := #[] }, { accessFlags := 10, nameIndex := 41, descriptorIndex := 42, attributes := #[] }, { accessFlags := 10, nameIndex := 37, descriptorIndex := 38, attributes := #[] }, { accessFlags := 9, nameIndex := 46, descriptorIndex := 47, attributes := #[] }] 49 2 #[] #[])
  fields := #[]
  methods := #[k1m0, k1m1, k1m2, k1m3, k1m4]
  instanceTypes := #[]
  staticTypes := #[]
  resolved := Array.replicate 50 none
  statics := none }

def pool2 : Array CpInfo := pool [(1, .class_ 2), (0, u "java/io/Serializable"), (0, .class_ 4), (0, u "java/lang/Object")] 2

/-- java/io/Serializable -/
def k2 : Class := { plain "java/io/Serializable" (some 0) with
  accessFlags := 1537
  interfaces := #[]
  cf := some (fileOf pool2 1 #[] #[] 1537 3 #[] #[])
  fields := #[]
  methods := #[]
  instanceTypes := #[]
  staticTypes := #[]
  resolved := Array.replicate 7 none
  statics := none }

def pool3 : Array CpInfo := pool [(1, .class_ 2), (0, u "java/lang/Comparable"), (0, .class_ 4), (0, u "java/lang/Object")] 7

/-- java/lang/Comparable -/
def k3 : Class := { plain "java/lang/Comparable" (some 0) with
  accessFlags := 1537
  interfaces := #[]
  cf := some (fileOf pool3 1 #[] #[] 1537 3 #[] #[])
  fields := #[]
  methods := #[]
  instanceTypes := #[]
  staticTypes := #[]
  resolved := Array.replicate 12 none
  statics := none }

def pool4 : Array CpInfo := pool [(2, .class_ 4), (1, u "java/lang/CharSequence"), (42, .class_ 48), (0, u "java/lang/CharSequence$1CodePointIterator"), (10, .class_ 60), (0, u "java/lang/CharSequence$1CharIterator"), (5, .class_ 67), (0, u "java/lang/Object")] 63

/-- java/lang/CharSequence -/
def k4 : Class := { plain "java/lang/CharSequence" (some 0) with
  accessFlags := 1537
  interfaces := #[]
  cf := some (fileOf pool4 2 #[.nestMembers #[47, 59]] #[] 1537 66 #[] #[])
  fields := #[]
  methods := #[]
  instanceTypes := #[]
  staticTypes := #[]
  resolved := Array.replicate 131 none
  statics := none }

def pool5 : Array CpInfo := pool [(1, .class_ 2), (0, u "java/lang/constant/Constable"), (0, .class_ 4), (0, u "java/lang/Object")] 6

/-- java/lang/constant/Constable -/
def k5 : Class := { plain "java/lang/constant/Constable" (some 0) with
  accessFlags := 1537
  interfaces := #[]
  cf := some (fileOf pool5 1 #[] #[] 1537 3 #[] #[])
  fields := #[]
  methods := #[]
  instanceTypes := #[]
  staticTypes := #[]
  resolved := Array.replicate 11 none
  statics := none }

def pool6 : Array CpInfo := pool [(1, .class_ 2), (0, u "java/lang/constant/ConstantDesc"), (0, .class_ 4), (0, u "java/lang/Object")] 32

/-- java/lang/constant/ConstantDesc -/
def k6 : Class := { plain "java/lang/constant/ConstantDesc" (some 0) with
  accessFlags := 1537
  interfaces := #[]
  cf := some (fileOf pool6 1 #[] #[] 1537 3 #[] #[])
  fields := #[]
  methods := #[]
  instanceTypes := #[]
  staticTypes := #[]
  resolved := Array.replicate 37 none
  statics := none }

def pool7 : Array CpInfo := pool [(1, .methodref 2 3), (0, .class_ 4), (0, .nameAndType 5 6), (0, u "java/lang/Object"), (0, u "<init>"), (0, u "()V"), (0, .string 8), (0, u ""), (0, .fieldref 10 11), (0, .class_ 12), (0, .nameAndType 13 14), (0, u "java/lang/String"), (0, u "value"), (0, u "[B"), (0, .fieldref 10 16), (0, .nameAndType 17 18), (0, u "coder"), (0, u "B"), (2, u "hash"), (0, u "I"), (2, u "hashIsZero"), (0, u "Z"), (0, .methodref 10 28), (0, .nameAndType 5 29), (0, u "([CIILjava/lang/Void;)V"), (8, .fieldref 10 39), (0, .nameAndType 40 26), (0, u "COMPACT_STRINGS"), (1, .class_ 44), (1, u "java/lang/StringUTF16"), (0, u "compress"), (1, .methodref 42 48), (0, .nameAndType 49 50), (0, u "coderFromArrayLen"), (0, u "([BI)B"), (3, .methodref 55 56), (0, .class_ 57), (0, .nameAndType 58 59), (0, u "java/util/Arrays"), (0, u "copyOfRange"), (0, u "([BII)[B"), (47, .class_ 109), (1, u "java/lang/StringLatin1"), (32, u "()Z"), (34, .methodref 42 178), (0, .nameAndType 45 179), (0, u "([CII)[B"), (13, .class_ 195), (1, u "java/lang/System"), (16, .methodref 193 213), (0, .nameAndType 214 215), (0, u "arraycopy"), (0, u "(Ljava/lang/Object;ILjava/lang/Object;II)V"), (118, u "()I"), (0, .methodref 10 336), (0, .nameAndType 17 337), (0, u "()B"), (2, u "()[B"), (22, u "([BI)C"), (27, u "(II)V"), (35, u "(I)C"), (61, .methodref 10 490), (0, .nameAndType 5 491), (0, u "(Ljava/lang/AbstractStringBuilder;Ljava/lang/Void;)V"), (0, .methodref 10 493), (0, .nameAndType 494 142), (0, u "isLatin1"), (0, .methodref 107 496), (0, .nameAndType 497 363), (0, u "charAt"), (3, u "checkIndex"), (4, .nameAndType 507 334), (0, u "length"), (24, u "getBytes"), (16, .methodref 550 506), (0, .class_ 551), (0, u "java/lang/AbstractStringBuilder"), (0, .methodref 550 553), (0, .nameAndType 554 340), (0, u "getValue"), (20, .class_ 576), (0, u "java/lang/CharSequence"), (22, u "CASE_INSENSITIVE_ORDER"), (0, u "Ljava/util/Comparator;"), (220, u "([BIB)V"), (188, u "([C)V"), (36, .methodref 550 493), (5, .fieldref 1054 1055), (0, .class_ 1056), (0, .nameAndType 1057 1058), (0, u "jdk/internal/util/Preconditions"), (0, u "SIOOBE_FORMATTER"), (0, u "Ljava/util/function/BiFunction;"), (0, .methodref 1054 1060), (0, .nameAndType 501 1061), (0, u "(IILjava/util/function/BiFunction;)I"), (39, u "serialPersistentFields"), (0, u "[Ljava/io/ObjectStreamField;"), (0, .class_ 1104), (0, u "java/lang/String$CaseInsensitiveComparator"), (1, .class_ 1107), (0, u "java/io/Serializable"), (0, .class_ 1109), (0, u "java/lang/Comparable"), (0, .class_ 1111), (0, u "java/lang/constant/Constable"), (0, .class_ 1113), (0, u "java/lang/constant/ConstantDesc"), (2, u "serialVersionUID"), (0, u "J"), (3, u "REPL"), (0, u "C"), (2, u "LATIN1"), (1, u "UTF16"), (105, u "(Ljava/lang/StringBuilder;)V")] 217

def k7m0 : Method := { name := "<init>", desc := "()V", sig := { parameters := [], returnType := none }, accessFlags := 1, code := none }
def k7c1 : Code := { maxStack := 5, maxLocals := 2, code := jdk_42_method_3_code, exceptionTable := #[], attributes := #[] }
def k7m1 : Method := { name := "<init>", desc := "([C)V", sig := { parameters := [(.array .char)], returnType := none }, accessFlags := 1, code := some k7c1 }
def k7c2 : Code := { maxStack := 3, maxLocals := 2, code := jdk_42_method_53_code, exceptionTable := #[], attributes := #[] }
def k7m2 : Method := { name := "<init>", desc := "(Ljava/lang/StringBuilder;)V", sig := { parameters := [(.object "java/lang/StringBuilder")], returnType := none }, accessFlags := 1, code := some k7c2 }
def k7c3 : Code := { maxStack := 2, maxLocals := 1, code := jdk_42_method_54_code, exceptionTable := #[], attributes := #[] }
def k7m3 : Method := { name := "length", desc := "()I", sig := { parameters := [], returnType := some .int }, accessFlags := 1, code := some k7c3 }
def k7c4 : Code := { maxStack := 2, maxLocals := 2, code := jdk_42_method_56_code, exceptionTable := #[], attributes := #[] }
def k7m4 : Method := { name := "charAt", desc := "(I)C", sig := { parameters := [.int], returnType := some .char }, accessFlags := 1, code := some k7c4 }
def k7c5 : Code := { maxStack := 5, maxLocals := 4, code := jdk_42_method_147_code, exceptionTable := #[], attributes := #[] }
def k7m5 : Method := { name := "getBytes", desc := "([BIB)V", sig := { parameters := [(.array .byte), .int, .byte], returnType := none }, accessFlags := 0, code := some k7c5 }
def k7c6 : Code := { maxStack := 4, maxLocals := 6, code := jdk_42_method_149_code, exceptionTable := #[], attributes := #[] }
def k7m6 : Method := { name := "<init>", desc := "([CIILjava/lang/Void;)V", sig := { parameters := [(.array .char), .int, .int, (.object "java/lang/Void")], returnType := none }, accessFlags := 2, code := some k7c6 }
def k7c7 : Code := { maxStack := 5, maxLocals := 5, code := jdk_42_method_150_code, exceptionTable := #[], attributes := #[] }
def k7m7 : Method := { name := "<init>", desc := "(Ljava/lang/AbstractStringBuilder;Ljava/lang/Void;)V", sig := { parameters := [(.object "java/lang/AbstractStringBuilder"), (.object "java/lang/Void")], returnType := none }, accessFlags := 0, code := some k7c7 }
def k7c8 : Code := { maxStack := 1, maxLocals := 1, code := jdk_42_method_152_code, exceptionTable := #[], attributes := #[] }
def k7m8 : Method := { name := "coder", desc := "()B", sig := { parameters := [], returnType := some .byte }, accessFlags := 0, code := some k7c8 }
def k7c9 : Code := { maxStack := 1, maxLocals := 1, code := jdk_42_method_154_code, exceptionTable := #[], attributes := #[] }
def k7m9 : Method := { name := "isLatin1", desc := "()Z", sig := { parameters := [], returnType := some .boolean }, accessFlags := 0, code := some k7c9 }
def k7c10 : Code := { maxStack := 3, maxLocals := 2, code := jdk_42_method_155_code, exceptionTable := #[], attributes := #[] }
def k7m10 : Method := { name := "checkIndex", desc := "(II)V", sig := { parameters := [.int, .int], returnType := none }, accessFlags := 8, code := some k7c10 }
/-- java/lang/String -/
def k7 : Class := { plain "java/lang/String" (some 0) with
  accessFlags := 49
  interfaces := #[2, 3, 4, 5, 6]
  cf := some (fileOf pool7 10 #[.nestMembers #[1103]] #[{ accessFlags := 1, nameIndex := 5, descriptorIndex := 6, attributes := #[] }, { accessFlags := 1, nameIndex := 5, descriptorIndex := 1010, attributes := #[] }, { accessFlags := 1, nameIndex := 5, descriptorIndex := 1233, attributes := #[] }, { accessFlags := 1, nameIndex := 507, descriptorIndex := 334, attributes := #[] }, { accessFlags := 1, nameIndex := 497, descriptorIndex := 427, attributes := #[] }, { accessFlags := 0, nameIndex := 532, descriptorIndex := 821, attributes := #[] }, { accessFlags := 2, nameIndex := 5, descriptorIndex := 29, attributes := #[] }, { accessFlags := 0, nameIndex := 5, descriptorIndex := 491, attributes := #[] }, { accessFlags := 0, nameIndex := 17, descriptorIndex := 337, attributes := #[] }, { accessFlags := 0, nameIndex := 494, descriptorIndex := 142, attributes := #[] }, { accessFlags := 8, nameIndex := 501, descriptorIndex := 391, attributes := #[] }] 49 2 #[1106, 1108, 575, 1110, 1112] #[{ accessFlags := 18, nameIndex := 13, descriptorIndex := 14, attributes := #[] }, { accessFlags := 18, nameIndex := 17, descriptorIndex := 18, attributes := #[] }, { accessFlags := 2, nameIndex := 21, descriptorIndex := 22, attributes := #[] }, { accessFlags := 2, nameIndex := 25, descriptorIndex := 26, attributes := #[] }, { accessFlags := 26, nameIndex := 1116, descriptorIndex := 1117, attributes := #[] }, { accessFlags := 24, nameIndex := 40, descriptorIndex := 26, attributes := #[] }, { accessFlags := 26, nameIndex := 1101, descriptorIndex := 1102, attributes := #[] }, { accessFlags := 26, nameIndex := 1121, descriptorIndex := 1122, attributes := #[] }, { accessFlags := 25, nameIndex := 599, descriptorIndex := 600, attributes := #[] }, { accessFlags := 24, nameIndex := 1125, descriptorIndex := 18, attributes := #[] }, { accessFlags := 24, nameIndex := 1127, descriptorIndex := 18, attributes := #[] }])
  fields := #[{ name := "value", type := (.array .byte), accessFlags := 18, slot := 0, constantValue := 0 }, { name := "coder", type := .byte, accessFlags := 18, slot := 1, constantValue := 0 }, { name := "hash", type := .int, accessFlags := 2, slot := 2, constantValue := 0 }, { name := "hashIsZero", type := .boolean, accessFlags := 2, slot := 3, constantValue := 0 }, { name := "serialVersionUID", type := .long, accessFlags := 26, slot := 0, constantValue := 0 }, { name := "COMPACT_STRINGS", type := .boolean, accessFlags := 24, slot := 1, constantValue := 0 }, { name := "serialPersistentFields", type := (.array (.object "java/io/ObjectStreamField")), accessFlags := 26, slot := 2, constantValue := 0 }, { name := "REPL", type := .char, accessFlags := 26, slot := 3, constantValue := 0 }, { name := "CASE_INSENSITIVE_ORDER", type := (.object "java/util/Comparator"), accessFlags := 25, slot := 4, constantValue := 0 }, { name := "LATIN1", type := .byte, accessFlags := 24, slot := 5, constantValue := 0 }, { name := "UTF16", type := .byte, accessFlags := 24, slot := 6, constantValue := 0 }]
  methods := #[k7m0, k7m1, k7m2, k7m3, k7m4, k7m5, k7m6, k7m7, k7m8, k7m9, k7m10]
  instanceTypes := #[(.array .byte), .byte, .int, .boolean]
  staticTypes := #[.long, .boolean, (.array (.object "java/io/ObjectStreamField")), .char, (.object "java/util/Comparator"), .byte, .byte]
  resolved := Array.replicate 1451 none
  statics := some 0 }

def pool8 : Array CpInfo := pool [(6, .class_ 8), (1, u "java/lang/Object"), (0, u "<init>"), (0, u "()V"), (1, .class_ 14), (1, u "java/lang/StringUTF16"), (31, u "$assertionsDisabled"), (0, u "Z"), (13, u "HI_BYTE_SHIFT"), (0, u "I"), (2, u "LO_BYTE_SHIFT"), (49, .methodref 12 116), (0, .nameAndType 117 118), (0, u "compress"), (0, u "([CI[BII)I"), (3, u "([CII)[B"), (138, u "coderFromArrayLen"), (0, u "([BI)B"), (106, .class_ 371), (1, u "java/lang/StringUTF16$LinesSpliterator"), (58, u "MAX_LENGTH"), (196, .class_ 628), (0, u "java/lang/StringUTF16$CodePointsSpliterator"), (0, .class_ 630), (0, u "java/lang/StringUTF16$CharsSpliterator")] 4

def k8m0 : Method := { name := "<init>", desc := "()V", sig := { parameters := [], returnType := none }, accessFlags := 0, code := none }
def k8c1 : Code := { maxStack := 2, maxLocals := 2, code := jdk_52_method_15_code, exceptionTable := #[], attributes := #[] }
def k8m1 : Method := { name := "coderFromArrayLen", desc := "([BI)B", sig := { parameters := [(.array .byte), .int], returnType := some .byte }, accessFlags := 8, code := some k8c1 }
def k8c2 : Code := { maxStack := 5, maxLocals := 6, code := jdk_52_method_16_code, exceptionTable := #[], attributes := #[] }
def k8m2 : Method := { name := "compress", desc := "([CII)[B", sig := { parameters := [(.array .char), .int, .int], returnType := some (.array .byte) }, accessFlags := 9, code := some k8c2 }
def k8c3 : Code := { maxStack := 3, maxLocals := 7, code := jdk_52_method_21_code, exceptionTable := #[], attributes := #[] }
def k8m3 : Method := { name := "compress", desc := "([CI[BII)I", sig := { parameters := [(.array .char), .int, (.array .byte), .int, .int], returnType := some .int }, accessFlags := 9, code := some k8c3 }
/-- java/lang/StringUTF16 -/
def k8 : Class := { plain "java/lang/StringUTF16" (some 0) with
  accessFlags := 48
  interfaces := #[]
  cf := some (fileOf pool8 12 #[.nestMembers #[627, 629, 369]] #[{ accessFlags := 0, nameIndex := 9, descriptorIndex := 10, attributes := #[] }, { accessFlags := 8, nameIndex := 261, descriptorIndex := 262, attributes := #[] }, { accessFlags := 9, nameIndex := 117, descriptorIndex := 122, attributes := #[] }, { accessFlags := 9, nameIndex := 117, descriptorIndex := 118, attributes := #[] }] 48 6 #[] #[{ accessFlags := 26, nameIndex := 61, descriptorIndex := 62, attributes := #[] }, { accessFlags := 26, nameIndex := 65, descriptorIndex := 62, attributes := #[] }, { accessFlags := 24, nameIndex := 430, descriptorIndex := 62, attributes := #[] }, { accessFlags := 4120, nameIndex := 46, descriptorIndex := 47, attributes := #[] }])
  fields := #[{ name := "HI_BYTE_SHIFT", type := .int, accessFlags := 26, slot := 0, constantValue := 0 }, { name := "LO_BYTE_SHIFT", type := .int, accessFlags := 26, slot := 1, constantValue := 0 }, { name := "MAX_LENGTH", type := .int, accessFlags := 24, slot := 2, constantValue := 0 }, { name := "$assertionsDisabled", type := .boolean, accessFlags := 4120, slot := 3, constantValue := 0 }]
  methods := #[k8m0, k8m1, k8m2, k8m3]
  instanceTypes := #[]
  staticTypes := #[.int, .int, .int, .boolean]
  resolved := Array.replicate 635 none
  statics := none }

def pool9 : Array CpInfo := pool [(1, .methodref 2 3), (0, .class_ 4), (0, .nameAndType 5 6), (0, u "java/lang/Object"), (0, u "<init>"), (0, u "()V"), (0, .string 8), (0, u "sequenceName"), (0, .methodref 10 11), (0, .class_ 12), (0, .nameAndType 13 14), (0, u "java/util/Objects"), (0, u "requireNonNull"), (0, u "(Ljava/lang/Object;Ljava/lang/String;)Ljava/lang/Object;"), (0, .class_ 16), (0, u "java/lang/String"), (0, .fieldref 18 19), (0, .class_ 20), (0, .nameAndType 8 21), (0, u "com/example/per_group_sequences/pergroupsequences/CounterId"), (0, u "Ljava/lang/String;"), (0, .string 23), (0, u "groupKey"), (0, .fieldref 18 25), (0, .nameAndType 23 21), (8, .class_ 35), (0, u "java/lang/StringBuilder"), (0, .methodref 34 3), (0, .string 38), (0, u "("), (0, .methodref 34 40), (0, .nameAndType 41 42), (0, u "append"), (0, u "(Ljava/lang/String;)Ljava/lang/StringBuilder;"), (0, .string 44), (0, u ", "), (0, .string 46), (0, u ")"), (0, .methodref 34 48), (0, .nameAndType 49 50), (0, u "toString"), (0, u "()Ljava/lang/String;"), (0, u "(Ljava/lang/String;Ljava/lang/String;)V")] 9

def k9c0 : Code := { maxStack := 3, maxLocals := 3, code := prog_9_method_1_code, exceptionTable := #[], attributes := #[] }
def k9m0 : Method := { name := "<init>", desc := "(Ljava/lang/String;Ljava/lang/String;)V", sig := { parameters := [(.object "java/lang/String"), (.object "java/lang/String")], returnType := none }, accessFlags := 1, code := some k9c0 }
def k9c1 : Code := { maxStack := 2, maxLocals := 1, code := prog_9_method_6_code, exceptionTable := #[], attributes := #[] }
def k9m1 : Method := { name := "toString", desc := "()Ljava/lang/String;", sig := { parameters := [], returnType := some (.object "java/lang/String") }, accessFlags := 1, code := some k9c1 }
/-- com/example/per_group_sequences/pergroupsequences/CounterId -/
def k9 : Class := { plain "com/example/per_group_sequences/pergroupsequences/CounterId" (some 0) with
  accessFlags := 49
  interfaces := #[]
  cf := some (fileOf pool9 18 #[] #[{ accessFlags := 1, nameIndex := 5, descriptorIndex := 51, attributes := #[] }, { accessFlags := 1, nameIndex := 49, descriptorIndex := 50, attributes := #[] }] 49 2 #[] #[{ accessFlags := 18, nameIndex := 8, descriptorIndex := 21, attributes := #[] }, { accessFlags := 18, nameIndex := 23, descriptorIndex := 21, attributes := #[] }])
  fields := #[{ name := "sequenceName", type := (.object "java/lang/String"), accessFlags := 18, slot := 0, constantValue := 0 }, { name := "groupKey", type := (.object "java/lang/String"), accessFlags := 18, slot := 1, constantValue := 0 }]
  methods := #[k9m0, k9m1]
  instanceTypes := #[(.object "java/lang/String"), (.object "java/lang/String")]
  staticTypes := #[]
  resolved := Array.replicate 61 none
  statics := none }

def pool10 : Array CpInfo := pool [(2, .class_ 4), (1, u "java/lang/Object"), (0, u "<init>"), (0, u "()V"), (35, .class_ 44), (1, u "java/util/Objects"), (0, u "requireNonNull"), (48, u "(Ljava/lang/Object;Ljava/lang/String;)Ljava/lang/Object;")] 89

def k10m0 : Method := { name := "<init>", desc := "()V", sig := { parameters := [], returnType := none }, accessFlags := 2, code := none }
def k10c1 : Code := { maxStack := 3, maxLocals := 2, code := jdk_31_method_11_code, exceptionTable := #[], attributes := #[] }
def k10m1 : Method := { name := "requireNonNull", desc := "(Ljava/lang/Object;Ljava/lang/String;)Ljava/lang/Object;", sig := { parameters := [(.object "java/lang/Object"), (.object "java/lang/String")], returnType := some (.object "java/lang/Object") }, accessFlags := 9, code := some k10c1 }
/-- java/util/Objects -/
def k10 : Class := { plain "java/util/Objects" (some 0) with
  accessFlags := 49
  interfaces := #[]
  cf := some (fileOf pool10 42 #[] #[{ accessFlags := 2, nameIndex := 5, descriptorIndex := 6, attributes := #[] }, { accessFlags := 9, nameIndex := 45, descriptorIndex := 94, attributes := #[] }] 49 2 #[] #[])
  fields := #[]
  methods := #[k10m0, k10m1]
  instanceTypes := #[]
  staticTypes := #[]
  resolved := Array.replicate 184 none
  statics := none }

def pool11 : Array CpInfo := pool [(1, .class_ 2), (0, u "java/lang/Appendable"), (0, .class_ 4), (0, u "java/lang/Object")] 9

/-- java/lang/Appendable -/
def k11 : Class := { plain "java/lang/Appendable" (some 0) with
  accessFlags := 1537
  interfaces := #[]
  cf := some (fileOf pool11 1 #[] #[] 1537 3 #[] #[])
  fields := #[]
  methods := #[]
  instanceTypes := #[]
  staticTypes := #[]
  resolved := Array.replicate 14 none
  statics := none }

def pool12 : Array CpInfo := pool [(1, .class_ 2), (0, u "java/lang/String"), (0, .methodref 4 5), (0, .class_ 6), (0, .nameAndType 7 8), (0, u "java/lang/Object"), (0, u "<init>"), (0, u "()V"), (1, .class_ 12), (1, u "java/lang/AbstractStringBuilder"), (0, u "EMPTYVALUE"), (0, u "[B"), (0, .fieldref 10 16), (0, .nameAndType 17 14), (0, u "value"), (0, .fieldref 1 19), (0, .nameAndType 20 21), (0, u "COMPACT_STRINGS"), (0, u "Z"), (0, .fieldref 10 23), (0, .nameAndType 24 25), (0, u "coder"), (0, u "B"), (6, .methodref 1 33), (0, .nameAndType 34 35), (0, u "length"), (0, u "()I"), (4, .methodref 1 41), (0, .nameAndType 24 42), (0, u "()B"), (2, u "append"), (0, u "(Ljava/lang/String;)Ljava/lang/AbstractStringBuilder;"), (1, .class_ 49), (0, u "java/lang/CharSequence"), (19, u "(Ljava/lang/String;)V"), (5, u "maybeLatin1"), (3, .fieldref 10 80), (0, .nameAndType 81 82), (0, u "count"), (0, u "I"), (2, u "isLatin1"), (0, u "()Z"), (13, .methodref 10 101), (0, .nameAndType 102 103), (0, u "ensureCapacityInternal"), (0, u "(I)V"), (104, .methodref 10 209), (0, .nameAndType 210 211), (0, u "putStringAt"), (0, u "(ILjava/lang/String;)V"), (5, u "inflateIfNeededFor"), (2, .nameAndType 221 222), (0, u "getBytes"), (0, u "([BIB)V"), (174, .methodref 10 398), (0, .nameAndType 217 69), (0, .methodref 1 220), (3, u "()[B"), (40, .class_ 445), (0, u "java/lang/Appendable"), (106, u "getValue")] 56

def k12m0 : Method := { name := "<init>", desc := "()V", sig := { parameters := [], returnType := none }, accessFlags := 0, code := none }
def k12c1 : Code := { maxStack := 2, maxLocals := 2, code := jdk_68_method_2_code, exceptionTable := #[], attributes := #[] }
def k12m1 : Method := { name := "<init>", desc := "(I)V", sig := { parameters := [.int], returnType := none }, accessFlags := 0, code := some k12c1 }
def k12c2 : Code := { maxStack := 1, maxLocals := 1, code := jdk_68_method_6_code, exceptionTable := #[], attributes := #[] }
def k12m2 : Method := { name := "length", desc := "()I", sig := { parameters := [], returnType := some .int }, accessFlags := 1, code := some k12c2 }
def k12c3 : Code := { maxStack := 4, maxLocals := 3, code := jdk_68_method_9_code, exceptionTable := #[], attributes := #[] }
def k12m3 : Method := { name := "ensureCapacityInternal", desc := "(I)V", sig := { parameters := [.int], returnType := none }, accessFlags := 2, code := some k12c3 }
def k12c4 : Code := { maxStack := 3, maxLocals := 3, code := jdk_68_method_22_code, exceptionTable := #[], attributes := #[] }
def k12m4 : Method := { name := "append", desc := "(Ljava/lang/String;)Ljava/lang/AbstractStringBuilder;", sig := { parameters := [(.object "java/lang/String")], returnType := some (.object "java/lang/AbstractStringBuilder") }, accessFlags := 1, code := some k12c4 }
def k12c5 : Code := { maxStack := 1, maxLocals := 1, code := jdk_68_method_64_code, exceptionTable := #[], attributes := #[] }
def k12m5 : Method := { name := "getValue", desc := "()[B", sig := { parameters := [], returnType := some (.array .byte) }, accessFlags := 16, code := some k12c5 }
def k12c6 : Code := { maxStack := 1, maxLocals := 1, code := jdk_68_method_68_code, exceptionTable := #[], attributes := #[] }
def k12m6 : Method := { name := "isLatin1", desc := "()Z", sig := { parameters := [], returnType := some .boolean }, accessFlags := 16, code := some k12c6 }
def k12c7 : Code := { maxStack := 2, maxLocals := 2, code := jdk_68_method_71_code, exceptionTable := #[], attributes := #[] }
def k12m7 : Method := { name := "inflateIfNeededFor", desc := "(Ljava/lang/String;)V", sig := { parameters := [(.object "java/lang/String")], returnType := none }, accessFlags := 2, code := some k12c7 }
def k12c8 : Code := { maxStack := 4, maxLocals := 3, code := jdk_68_method_73_code, exceptionTable := #[], attributes := #[] }
def k12m8 : Method := { name := "putStringAt", desc := "(ILjava/lang/String;)V", sig := { parameters := [.int, (.object "java/lang/String")], returnType := none }, accessFlags := 2, code := some k12c8 }
/-- java/lang/AbstractStringBuilder -/
def k12 : Class := { plain "java/lang/AbstractStringBuilder" (some 0) with
  accessFlags := 1056
  interfaces := #[11, 4]
  cf := some (fileOf pool12 10 #[] #[{ accessFlags := 0, nameIndex := 7, descriptorIndex := 8, attributes := #[] }, { accessFlags := 0, nameIndex := 7, descriptorIndex := 103, attributes := #[] }, { accessFlags := 1, nameIndex := 34, descriptorIndex := 35, attributes := #[] }, { accessFlags := 2, nameIndex := 102, descriptorIndex := 103, attributes := #[] }, { accessFlags := 1, nameIndex := 45, descriptorIndex := 46, attributes := #[] }, { accessFlags := 16, nameIndex := 552, descriptorIndex := 403, attributes := #[] }, { accessFlags := 16, nameIndex := 85, descriptorIndex := 86, attributes := #[] }, { accessFlags := 2, nameIndex := 217, descriptorIndex := 69, attributes := #[] }, { accessFlags := 2, nameIndex := 210, descriptorIndex := 211, attributes := #[] }] 1056 4 #[444, 48] #[{ accessFlags := 0, nameIndex := 17, descriptorIndex := 14, attributes := #[] }, { accessFlags := 0, nameIndex := 24, descriptorIndex := 25, attributes := #[] }, { accessFlags := 0, nameIndex := 75, descriptorIndex := 21, attributes := #[] }, { accessFlags := 0, nameIndex := 81, descriptorIndex := 82, attributes := #[] }, { accessFlags := 26, nameIndex := 13, descriptorIndex := 14, attributes := #[] }])
  fields := #[{ name := "value", type := (.array .byte), accessFlags := 0, slot := 0, constantValue := 0 }, { name := "coder", type := .byte, accessFlags := 0, slot := 1, constantValue := 0 }, { name := "maybeLatin1", type := .boolean, accessFlags := 0, slot := 2, constantValue := 0 }, { name := "count", type := .int, accessFlags := 0, slot := 3, constantValue := 0 }, { name := "EMPTYVALUE", type := (.array .byte), accessFlags := 26, slot := 0, constantValue := 0 }]
  methods := #[k12m0, k12m1, k12m2, k12m3, k12m4, k12m5, k12m6, k12m7, k12m8]
  instanceTypes := #[(.array .byte), .byte, .boolean, .int]
  staticTypes := #[(.array .byte)]
  resolved := Array.replicate 609 none
  statics := none }

def pool13 : Array CpInfo := pool [(1, .methodref 2 3), (0, .class_ 4), (0, .nameAndType 5 6), (0, u "java/lang/AbstractStringBuilder"), (0, u "<init>"), (0, u "(I)V"), (11, .class_ 20), (1, u "java/lang/String"), (3, .class_ 26), (1, u "java/lang/StringBuilder"), (0, u "append"), (0, u "(Ljava/lang/String;)Ljava/lang/StringBuilder;"), (0, .methodref 2 30), (0, .nameAndType 27 31), (0, u "(Ljava/lang/String;)Ljava/lang/AbstractStringBuilder;"), (105, .methodref 18 138), (0, .nameAndType 5 139), (0, u "(Ljava/lang/StringBuilder;)V"), (5, u "()V"), (10, u "()I"), (186, .methodref 2 344), (0, .nameAndType 345 156), (0, u "length"), (3, .class_ 350), (0, u "java/lang/Appendable"), (0, .class_ 352), (0, u "java/io/Serializable"), (0, .class_ 354), (0, u "java/lang/Comparable"), (0, .class_ 356), (0, u "java/lang/CharSequence"), (0, u "serialVersionUID"), (0, u "J"), (40, u "toString"), (0, u "()Ljava/lang/String;")] 21

def k13c0 : Code := { maxStack := 2, maxLocals := 1, code := jdk_67_method_1_code, exceptionTable := #[], attributes := #[] }
def k13m0 : Method := { name := "<init>", desc := "()V", sig := { parameters := [], returnType := none }, accessFlags := 1, code := some k13c0 }
def k13c1 : Code := { maxStack := 2, maxLocals := 2, code := jdk_67_method_7_code, exceptionTable := #[], attributes := #[] }
def k13m1 : Method := { name := "append", desc := "(Ljava/lang/String;)Ljava/lang/StringBuilder;", sig := { parameters := [(.object "java/lang/String")], returnType := some (.object "java/lang/StringBuilder") }, accessFlags := 1, code := some k13c1 }
def k13c2 : Code := { maxStack := 3, maxLocals := 1, code := jdk_67_method_42_code, exceptionTable := #[], attributes := #[] }
def k13m2 : Method := { name := "toString", desc := "()Ljava/lang/String;", sig := { parameters := [], returnType := some (.object "java/lang/String") }, accessFlags := 1, code := some k13c2 }
def k13c3 : Code := { maxStack := 1, maxLocals := 1, code := jdk_67_method_93_code, exceptionTable := #[], attributes := #[] }
def k13m3 : Method := { name := "length", desc := "()I", sig := { parameters := [], returnType := some .int }, accessFlags := 4161, code := some k13c3 }
/-- java/lang/StringBuilder -/
def k13 : Class := { plain "java/lang/StringBuilder" (some 12) with
  accessFlags := 49
  interfaces := #[11, 2, 3, 4]
  cf := some (fileOf pool13 24 #[] #[{ accessFlags := 1, nameIndex := 5, descriptorIndex := 145, attributes := #[] }, { accessFlags := 1, nameIndex := 27, descriptorIndex := 28, attributes := #[] }, { accessFlags := 1, nameIndex := 399, descriptorIndex := 400, attributes := #[] }, { accessFlags := 4161, nameIndex := 345, descriptorIndex := 156, attributes := #[] }] 49 2 #[349, 351, 353, 355] #[{ accessFlags := 24, nameIndex := 357, descriptorIndex := 358, attributes := #[] }])
  fields := #[{ name := "serialVersionUID", type := .long, accessFlags := 24, slot := 0, constantValue := 0 }]
  methods := #[k13m0, k13m1, k13m2, k13m3]
  instanceTypes := #[(.array .byte), .byte, .boolean, .int]
  staticTypes := #[.long]
  resolved := Array.replicate 422 none
  statics := none }

def pool14 : Array CpInfo := pool [(2, .class_ 4), (1, u "java/lang/Object"), (0, u "<init>"), (0, u "()V"), (1, .class_ 10), (1, u "java/lang/System"), (0, u "allowSecurityManager"), (0, u "I"), (16, u "cons"), (0, u "Ljava/io/Console;"), (77, .class_ 110), (1, u "java/lang/System$CallersHolder"), (43, u "initialErrStream"), (0, u "Ljava/io/PrintStream;"), (19, u "security"), (0, u "Ljava/lang/SecurityManager;"), (31, .class_ 209), (0, u "java/lang/System$1"), (7, u "props"), (0, u "Ljava/util/Properties;"), (2, u "lineSeparator"), (0, u "Ljava/lang/String;"), (96, .class_ 321), (1, u "java/lang/System$LoggerFinder"), (5, .class_ 328), (0, u "java/lang/System$Logger"), (67, u "err"), (2, u "out"), (91, u "notSupportedJnuEncoding"), (15, u "in"), (17, u "initialIn"), (0, u "Ljava/io/InputStream;"), (35, u "bootLayer"), (0, u "Ljava/lang/ModuleLayer;"), (99, .class_ 664), (0, u "java/lang/System$2"), (9, u "NEVER"), (2, u "MAYBE"), (49, u "arraycopy"), (0, u "(Ljava/lang/Object;ILjava/lang/Object;II)V"), (72, .class_ 802), (0, u "java/lang/System$Logger$Level")] 31

def k14m0 : Method := { name := "<init>", desc := "()V", sig := { parameters := [], returnType := none }, accessFlags := 2, code := none }
def k14m1 : Method := { name := "arraycopy", desc := "(Ljava/lang/Object;ILjava/lang/Object;II)V", sig := { parameters := [(.object "java/lang/Object"), .int, (.object "java/lang/Object"), .int, .int], returnType := none }, accessFlags := 265, code := none }
/-- java/lang/System -/
def k14 : Class := { plain "java/lang/System" (some 0) with
  accessFlags := 49
  interfaces := #[]
  cf := some (fileOf pool14 8 #[.nestMembers #[319, 327, 801, 108, 663, 208]] #[{ accessFlags := 2, nameIndex := 5, descriptorIndex := 6, attributes := #[] }, { accessFlags := 265, nameIndex := 727, descriptorIndex := 728, attributes := #[] }] 49 2 #[] #[{ accessFlags := 25, nameIndex := 507, descriptorIndex := 526, attributes := #[] }, { accessFlags := 25, nameIndex := 399, descriptorIndex := 155, attributes := #[] }, { accessFlags := 25, nameIndex := 396, descriptorIndex := 155, attributes := #[] }, { accessFlags := 10, nameIndex := 525, descriptorIndex := 526, attributes := #[] }, { accessFlags := 26, nameIndex := 674, descriptorIndex := 12, attributes := #[] }, { accessFlags := 26, nameIndex := 677, descriptorIndex := 12, attributes := #[] }, { accessFlags := 10, nameIndex := 11, descriptorIndex := 12, attributes := #[] }, { accessFlags := 74, nameIndex := 175, descriptorIndex := 176, attributes := #[] }, { accessFlags := 10, nameIndex := 491, descriptorIndex := 222, attributes := #[] }, { accessFlags := 74, nameIndex := 29, descriptorIndex := 30, attributes := #[] }, { accessFlags := 74, nameIndex := 154, descriptorIndex := 155, attributes := #[] }, { accessFlags := 10, nameIndex := 217, descriptorIndex := 218, attributes := #[] }, { accessFlags := 10, nameIndex := 221, descriptorIndex := 222, attributes := #[] }, { accessFlags := 8, nameIndex := 562, descriptorIndex := 563, attributes := #[] }])
  fields := #[{ name := "in", type := (.object "java/io/InputStream"), accessFlags := 25, slot := 0, constantValue := 0 }, { name := "out", type := (.object "java/io/PrintStream"), accessFlags := 25, slot := 1, constantValue := 0 }, { name := "err", type := (.object "java/io/PrintStream"), accessFlags := 25, slot := 2, constantValue := 0 }, { name := "initialIn", type := (.object "java/io/InputStream"), accessFlags := 10, slot := 3, constantValue := 0 }, { name := "NEVER", type := .int, accessFlags := 26, slot := 4, constantValue := 0 }, { name := "MAYBE", type := .int, accessFlags := 26, slot := 5, constantValue := 0 }, { name := "allowSecurityManager", type := .int, accessFlags := 10, slot := 6, constantValue := 0 }, { name := "security", type := (.object "java/lang/SecurityManager"), accessFlags := 74, slot := 7, constantValue := 0 }, { name := "notSupportedJnuEncoding", type := (.object "java/lang/String"), accessFlags := 10, slot := 8, constantValue := 0 }, { name := "cons", type := (.object "java/io/Console"), accessFlags := 74, slot := 9, constantValue := 0 }, { name := "initialErrStream", type := (.object "java/io/PrintStream"), accessFlags := 74, slot := 10, constantValue := 0 }, { name := "props", type := (.object "java/util/Properties"), accessFlags := 10, slot := 11, constantValue := 0 }, { name := "lineSeparator", type := (.object "java/lang/String"), accessFlags := 10, slot := 12, constantValue := 0 }, { name := "bootLayer", type := (.object "java/lang/ModuleLayer"), accessFlags := 8, slot := 13, constantValue := 0 }]
  methods := #[k14m0, k14m1]
  instanceTypes := #[]
  staticTypes := #[(.object "java/io/InputStream"), (.object "java/io/PrintStream"), (.object "java/io/PrintStream"), (.object "java/io/InputStream"), .int, .int, .int, (.object "java/lang/SecurityManager"), (.object "java/lang/String"), (.object "java/io/Console"), (.object "java/io/PrintStream"), (.object "java/util/Properties"), (.object "java/lang/String"), (.object "java/lang/ModuleLayer")]
  resolved := Array.replicate 834 none
  statics := none }

def pool15 : Array CpInfo := pool [(2, .class_ 4), (1, u "java/lang/Object"), (0, u "<init>"), (0, u "()V"), (7, .class_ 16), (1, u "java/util/Arrays"), (57, .class_ 76), (1, u "java/util/Arrays$NaturalOrder"), (36, .class_ 115), (1, u "java/util/Arrays$LegacyMergeSort"), (1, u "Z"), (21, u "copyOfRange"), (10, .methodref 151 152), (0, .class_ 153), (0, .nameAndType 154 155), (0, u "java/lang/System"), (0, u "arraycopy"), (0, u "(Ljava/lang/Object;ILjava/lang/Object;II)V"), (148, .methodref 305 306), (0, .class_ 307), (0, .nameAndType 308 309), (0, u "java/lang/Math"), (0, u "min"), (0, u "(II)I"), (29, .methodref 14 340), (0, .nameAndType 341 342), (0, u "copyOfRangeByte"), (0, u "([BII)[B"), (0, .methodref 14 344), (0, .nameAndType 345 346), (0, u "checkLength"), (0, u "(II)V"), (28, .class_ 376), (0, u "java/util/Arrays$ArrayList"), (68, u "$assertionsDisabled"), (269, u "MIN_ARRAY_SORT_GRAN"), (0, u "I"), (2, u "INSERTIONSORT_THRESHOLD"), (255, .class_ 976), (0, u "java/util/Arrays$ArrayItr")] 52

def k15m0 : Method := { name := "<init>", desc := "()V", sig := { parameters := [], returnType := none }, accessFlags := 2, code := none }
def k15c1 : Code := { maxStack := 4, maxLocals := 2, code := jdk_65_method_131_code, exceptionTable := #[], attributes := #[] }
def k15m1 : Method := { name := "checkLength", desc := "(II)V", sig := { parameters := [.int, .int], returnType := none }, accessFlags := 10, code := some k15c1 }
def k15c2 : Code := { maxStack := 3, maxLocals := 3, code := jdk_65_method_132_code, exceptionTable := #[], attributes := #[] }
def k15m2 : Method := { name := "copyOfRange", desc := "([BII)[B", sig := { parameters := [(.array .byte), .int, .int], returnType := some (.array .byte) }, accessFlags := 9, code := some k15c2 }
def k15c3 : Code := { maxStack := 6, maxLocals := 5, code := jdk_65_method_133_code, exceptionTable := #[], attributes := #[] }
def k15m3 : Method := { name := "copyOfRangeByte", desc := "([BII)[B", sig := { parameters := [(.array .byte), .int, .int], returnType := some (.array .byte) }, accessFlags := 10, code := some k15c3 }
/-- java/util/Arrays -/
def k15 : Class := { plain "java/util/Arrays" (some 0) with
  accessFlags := 49
  interfaces := #[]
  cf := some (fileOf pool15 14 #[.nestMembers #[975, 375, 113, 74]] #[{ accessFlags := 2, nameIndex := 5, descriptorIndex := 6, attributes := #[] }, { accessFlags := 10, nameIndex := 345, descriptorIndex := 346, attributes := #[] }, { accessFlags := 9, nameIndex := 139, descriptorIndex := 342, attributes := #[] }, { accessFlags := 10, nameIndex := 341, descriptorIndex := 342, attributes := #[] }] 49 2 #[] #[{ accessFlags := 26, nameIndex := 715, descriptorIndex := 716, attributes := #[] }, { accessFlags := 26, nameIndex := 719, descriptorIndex := 716, attributes := #[] }, { accessFlags := 4120, nameIndex := 445, descriptorIndex := 117, attributes := #[] }])
  fields := #[{ name := "MIN_ARRAY_SORT_GRAN", type := .int, accessFlags := 26, slot := 0, constantValue := 0 }, { name := "INSERTIONSORT_THRESHOLD", type := .int, accessFlags := 26, slot := 1, constantValue := 0 }, { name := "$assertionsDisabled", type := .boolean, accessFlags := 4120, slot := 2, constantValue := 0 }]
  methods := #[k15m0, k15m1, k15m2, k15m3]
  instanceTypes := #[]
  staticTypes := #[.int, .int, .boolean]
  resolved := Array.replicate 1029 none
  statics := none }

def pool16 : Array CpInfo := pool [(1, .class_ 2), (0, u "java/lang/Math"), (1, .class_ 6), (1, u "java/lang/Object"), (0, u "<init>"), (0, u "()V"), (89, .class_ 100), (1, u "java/lang/Math$RandomNumberGeneratorHolder"), (71, u "negativeZeroFloatBits"), (0, u "J"), (2, u "negativeZeroDoubleBits"), (24, u "min"), (43, u "$assertionsDisabled"), (0, u "Z"), (88, u "(II)I"), (2, u "twoToTheDoubleScaleDown"), (0, u "D"), (4, u "twoToTheDoubleScaleUp"), (9, u "E"), (3, u "PI"), (2, u "TAU"), (2, u "DEGREES_TO_RADIANS"), (0, u "RADIANS_TO_DEGREES")] 94

def k16m0 : Method := { name := "<init>", desc := "()V", sig := { parameters := [], returnType := none }, accessFlags := 2, code := none }
def k16c1 : Code := { maxStack := 2, maxLocals := 2, code := jdk_29_method_69_code, exceptionTable := #[], attributes := #[] }
def k16m1 : Method := { name := "min", desc := "(II)I", sig := { parameters := [.int, .int], returnType := some .int }, accessFlags := 9, code := some k16c1 }
/-- java/lang/Math -/
def k16 : Class := { plain "java/lang/Math" (some 0) with
  accessFlags := 49
  interfaces := #[]
  cf := some (fileOf pool16 1 #[.nestMembers #[98]] #[{ accessFlags := 2, nameIndex := 7, descriptorIndex := 8, attributes := #[] }, { accessFlags := 9, nameIndex := 201, descriptorIndex := 335, attributes := #[] }] 49 4 #[] #[{ accessFlags := 25, nameIndex := 354, descriptorIndex := 339, attributes := #[] }, { accessFlags := 25, nameIndex := 358, descriptorIndex := 339, attributes := #[] }, { accessFlags := 25, nameIndex := 361, descriptorIndex := 339, attributes := #[] }, { accessFlags := 26, nameIndex := 364, descriptorIndex := 339, attributes := #[] }, { accessFlags := 26, nameIndex := 365, descriptorIndex := 339, attributes := #[] }, { accessFlags := 26, nameIndex := 172, descriptorIndex := 173, attributes := #[] }, { accessFlags := 26, nameIndex := 176, descriptorIndex := 173, attributes := #[] }, { accessFlags := 8, nameIndex := 344, descriptorIndex := 339, attributes := #[] }, { accessFlags := 8, nameIndex := 338, descriptorIndex := 339, attributes := #[] }, { accessFlags := 4120, nameIndex := 245, descriptorIndex := 246, attributes := #[] }])
  fields := #[{ name := "E", type := .double, accessFlags := 25, slot := 0, constantValue := 0 }, { name := "PI", type := .double, accessFlags := 25, slot := 1, constantValue := 0 }, { name := "TAU", type := .double, accessFlags := 25, slot := 2, constantValue := 0 }, { name := "DEGREES_TO_RADIANS", type := .double, accessFlags := 26, slot := 3, constantValue := 0 }, { name := "RADIANS_TO_DEGREES", type := .double, accessFlags := 26, slot := 4, constantValue := 0 }, { name := "negativeZeroFloatBits", type := .long, accessFlags := 26, slot := 5, constantValue := 0 }, { name := "negativeZeroDoubleBits", type := .long, accessFlags := 26, slot := 6, constantValue := 0 }, { name := "twoToTheDoubleScaleUp", type := .double, accessFlags := 8, slot := 7, constantValue := 0 }, { name := "twoToTheDoubleScaleDown", type := .double, accessFlags := 8, slot := 8, constantValue := 0 }, { name := "$assertionsDisabled", type := .boolean, accessFlags := 4120, slot := 9, constantValue := 0 }]
  methods := #[k16m0, k16m1]
  instanceTypes := #[]
  staticTypes := #[.double, .double, .double, .double, .double, .long, .long, .double, .double, .boolean]
  resolved := Array.replicate 460 none
  statics := none }

def pool17 : Array CpInfo := pool [(1, .class_ 2), (0, u "java/lang/String"), (1, .class_ 6), (1, u "java/lang/Object"), (0, u "<init>"), (0, u "()V"), (0, .methodref 1 10), (0, .nameAndType 11 12), (0, u "checkIndex"), (0, u "(II)V"), (1, .class_ 16), (1, u "java/lang/StringLatin1"), (36, u "([BI)C"), (67, u "$assertionsDisabled"), (0, u "Z"), (98, .class_ 223), (1, u "java/lang/StringLatin1$LinesSpliterator"), (28, u "charAt"), (137, .class_ 391), (0, u "java/lang/StringLatin1$CharsSpliterator")] 3

def k17m0 : Method := { name := "<init>", desc := "()V", sig := { parameters := [], returnType := none }, accessFlags := 0, code := none }
def k17c1 : Code := { maxStack := 2, maxLocals := 2, code := jdk_43_method_2_code, exceptionTable := #[], attributes := #[] }
def k17m1 : Method := { name := "charAt", desc := "([BI)C", sig := { parameters := [(.array .byte), .int], returnType := some .char }, accessFlags := 9, code := some k17c1 }
/-- java/lang/StringLatin1 -/
def k17 : Class := { plain "java/lang/StringLatin1" (some 0) with
  accessFlags := 48
  interfaces := #[]
  cf := some (fileOf pool17 14 #[.nestMembers #[390, 221]] #[{ accessFlags := 0, nameIndex := 7, descriptorIndex := 8, attributes := #[] }, { accessFlags := 9, nameIndex := 252, descriptorIndex := 53, attributes := #[] }] 48 4 #[] #[{ accessFlags := 4120, nameIndex := 121, descriptorIndex := 122, attributes := #[] }])
  fields := #[{ name := "$assertionsDisabled", type := .boolean, accessFlags := 4120, slot := 0, constantValue := 0 }]
  methods := #[k17m0, k17m1]
  instanceTypes := #[]
  staticTypes := #[.boolean]
  resolved := Array.replicate 395 none
  statics := none }

def pool18 : Array CpInfo := pool [(2, .class_ 4), (1, u "java/lang/Object"), (0, u "<init>"), (0, u "()V"), (17, .class_ 26), (1, u "jdk/internal/util/Preconditions"), (6, u "checkIndex"), (21, .class_ 56), (0, u "jdk/internal/util/Preconditions$4"), (57, .class_ 115), (0, u "jdk/internal/util/Preconditions$1"), (7, u "SIOOBE_FORMATTER"), (0, u "Ljava/util/function/BiFunction;"), (0, .class_ 126), (0, u "jdk/internal/util/Preconditions$2"), (3, u "AIOOBE_FORMATTER"), (0, .class_ 132), (0, u "jdk/internal/util/Preconditions$3"), (3, u "IOOBE_FORMATTER"), (41, u "(IILjava/util/function/BiFunction;)I")] 15

def k18m0 : Method := { name := "<init>", desc := "()V", sig := { parameters := [], returnType := none }, accessFlags := 1, code := none }
def k18c1 : Code := { maxStack := 3, maxLocals := 3, code := jdk_41_method_11_code, exceptionTable := #[], attributes := #[] }
def k18m1 : Method := { name := "checkIndex", desc := "(IILjava/util/function/BiFunction;)I", sig := { parameters := [.int, .int, (.object "java/util/function/BiFunction")], returnType := some .int }, accessFlags := 9, code := some k18c1 }
/-- jdk/internal/util/Preconditions -/
def k18 : Class := { plain "jdk/internal/util/Preconditions" (some 0) with
  accessFlags := 33
  interfaces := #[]
  cf := some (fileOf pool18 24 #[.nestMembers #[55, 131, 125, 114]] #[{ accessFlags := 1, nameIndex := 5, descriptorIndex := 6, attributes := #[] }, { accessFlags := 9, nameIndex := 33, descriptorIndex := 178, attributes := #[] }] 33 2 #[] #[{ accessFlags := 25, nameIndex := 123, descriptorIndex := 124, attributes := #[] }, { accessFlags := 25, nameIndex := 130, descriptorIndex := 124, attributes := #[] }, { accessFlags := 25, nameIndex := 136, descriptorIndex := 124, attributes := #[] }])
  fields := #[{ name := "SIOOBE_FORMATTER", type := (.object "java/util/function/BiFunction"), accessFlags := 25, slot := 0, constantValue := 0 }, { name := "AIOOBE_FORMATTER", type := (.object "java/util/function/BiFunction"), accessFlags := 25, slot := 1, constantValue := 0 }, { name := "IOOBE_FORMATTER", type := (.object "java/util/function/BiFunction"), accessFlags := 25, slot := 2, constantValue := 0 }]
  methods := #[k18m0, k18m1]
  instanceTypes := #[]
  staticTypes := #[(.object "java/util/function/BiFunction"), (.object "java/util/function/BiFunction"), (.object "java/util/function/BiFunction")]
  resolved := Array.replicate 194 none
  statics := some 1 }

def pool19 : Array CpInfo := pool [(9, u "<init>"), (6, .class_ 18), (1, u "java/lang/Object"), (0, u "()V"), (1, .class_ 23), (1, u "jdk/internal/util/ArraysSupport"), (0, u "LOG2_ARRAY_LONG_INDEX_SCALE"), (0, u "I"), (2, u "U"), (0, u "Ljdk/internal/misc/Unsafe;"), (8, u "BIG_ENDIAN"), (0, u "Z"), (8, u "LOG2_BYTE_BIT_SIZE"), (4, u "LOG2_ARRAY_INT_INDEX_SCALE"), (54, u "JLA"), (0, u "Ljdk/internal/access/JavaLangAccess;"), (11, u "LOG2_ARRAY_BOOLEAN_INDEX_SCALE"), (9, u "LOG2_ARRAY_BYTE_INDEX_SCALE"), (5, u "LOG2_ARRAY_CHAR_INDEX_SCALE"), (5, u "LOG2_ARRAY_SHORT_INDEX_SCALE"), (18, u "LOG2_ARRAY_FLOAT_INDEX_SCALE"), (24, u "LOG2_ARRAY_DOUBLE_INDEX_SCALE"), (89, u "T_BOOLEAN"), (2, u "T_CHAR"), (1, u "T_FLOAT"), (1, u "T_DOUBLE"), (1, u "T_BYTE"), (1, u "T_SHORT"), (1, u "T_INT"), (1, u "T_LONG"), (1, u "SOFT_MAX_ARRAY_LENGTH")] 83

def k19m0 : Method := { name := "<init>", desc := "()V", sig := { parameters := [], returnType := none }, accessFlags := 2, code := none }
/-- jdk/internal/util/ArraysSupport -/
def k19 : Class := { plain "jdk/internal/util/ArraysSupport" (some 0) with
  accessFlags := 33
  interfaces := #[]
  cf := some (fileOf pool19 21 #[] #[{ accessFlags := 2, nameIndex := 9, descriptorIndex := 19, attributes := #[] }] 33 16 #[] #[{ accessFlags := 24, nameIndex := 28, descriptorIndex := 29, attributes := #[] }, { accessFlags := 26, nameIndex := 38, descriptorIndex := 39, attributes := #[] }, { accessFlags := 25, nameIndex := 121, descriptorIndex := 25, attributes := #[] }, { accessFlags := 25, nameIndex := 131, descriptorIndex := 25, attributes := #[] }, { accessFlags := 25, nameIndex := 137, descriptorIndex := 25, attributes := #[] }, { accessFlags := 25, nameIndex := 143, descriptorIndex := 25, attributes := #[] }, { accessFlags := 25, nameIndex := 53, descriptorIndex := 25, attributes := #[] }, { accessFlags := 25, nameIndex := 24, descriptorIndex := 25, attributes := #[] }, { accessFlags := 25, nameIndex := 162, descriptorIndex := 25, attributes := #[] }, { accessFlags := 25, nameIndex := 187, descriptorIndex := 25, attributes := #[] }, { accessFlags := 26, nameIndex := 48, descriptorIndex := 25, attributes := #[] }, { accessFlags := 25, nameIndex := 277, descriptorIndex := 25, attributes := #[] }, { accessFlags := 25, nameIndex := 280, descriptorIndex := 25, attributes := #[] }, { accessFlags := 25, nameIndex := 282, descriptorIndex := 25, attributes := #[] }, { accessFlags := 25, nameIndex := 284, descriptorIndex := 25, attributes := #[] }, { accessFlags := 25, nameIndex := 286, descriptorIndex := 25, attributes := #[] }, { accessFlags := 25, nameIndex := 288, descriptorIndex := 25, attributes := #[] }, { accessFlags := 25, nameIndex := 290, descriptorIndex := 25, attributes := #[] }, { accessFlags := 25, nameIndex := 292, descriptorIndex := 25, attributes := #[] }, { accessFlags := 26, nameIndex := 108, descriptorIndex := 109, attributes := #[] }, { accessFlags := 25, nameIndex := 294, descriptorIndex := 25, attributes := #[] }])
  fields := #[{ name := "U", type := (.object "jdk/internal/misc/Unsafe"), accessFlags := 24, slot := 0, constantValue := 0 }, { name := "BIG_ENDIAN", type := .boolean, accessFlags := 26, slot := 1, constantValue := 0 }, { name := "LOG2_ARRAY_BOOLEAN_INDEX_SCALE", type := .int, accessFlags := 25, slot := 2, constantValue := 0 }, { name := "LOG2_ARRAY_BYTE_INDEX_SCALE", type := .int, accessFlags := 25, slot := 3, constantValue := 0 }, { name := "LOG2_ARRAY_CHAR_INDEX_SCALE", type := .int, accessFlags := 25, slot := 4, constantValue := 0 }, { name := "LOG2_ARRAY_SHORT_INDEX_SCALE", type := .int, accessFlags := 25, slot := 5, constantValue := 0 }, { name := "LOG2_ARRAY_INT_INDEX_SCALE", type := .int, accessFlags := 25, slot := 6, constantValue := 0 }, { name := "LOG2_ARRAY_LONG_INDEX_SCALE", type := .int, accessFlags := 25, slot := 7, constantValue := 0 }, { name := "LOG2_ARRAY_FLOAT_INDEX_SCALE", type := .int, accessFlags := 25, slot := 8, constantValue := 0 }, { name := "LOG2_ARRAY_DOUBLE_INDEX_SCALE", type := .int, accessFlags := 25, slot := 9, constantValue := 0 }, { name := "LOG2_BYTE_BIT_SIZE", type := .int, accessFlags := 26, slot := 10, constantValue := 0 }, { name := "T_BOOLEAN", type := .int, accessFlags := 25, slot := 11, constantValue := 0 }, { name := "T_CHAR", type := .int, accessFlags := 25, slot := 12, constantValue := 0 }, { name := "T_FLOAT", type := .int, accessFlags := 25, slot := 13, constantValue := 0 }, { name := "T_DOUBLE", type := .int, accessFlags := 25, slot := 14, constantValue := 0 }, { name := "T_BYTE", type := .int, accessFlags := 25, slot := 15, constantValue := 0 }, { name := "T_SHORT", type := .int, accessFlags := 25, slot := 16, constantValue := 0 }, { name := "T_INT", type := .int, accessFlags := 25, slot := 17, constantValue := 0 }, { name := "T_LONG", type := .int, accessFlags := 25, slot := 18, constantValue := 0 }, { name := "JLA", type := (.object "jdk/internal/access/JavaLangAccess"), accessFlags := 26, slot := 19, constantValue := 0 }, { name := "SOFT_MAX_ARRAY_LENGTH", type := .int, accessFlags := 25, slot := 20, constantValue := 0 }]
  methods := #[k19m0]
  instanceTypes := #[]
  staticTypes := #[(.object "jdk/internal/misc/Unsafe"), .boolean, .int, .int, .int, .int, .int, .int, .int, .int, .int, .int, .int, .int, .int, .int, .int, .int, .int, (.object "jdk/internal/access/JavaLangAccess"), .int]
  resolved := Array.replicate 378 none
  statics := none }

def pool20 : Array CpInfo := pool [(1, u "java/lang/Cloneable"), (0, .class_ 1), (0, u "java/lang/Object"), (0, .class_ 3)] 3

/-- java/lang/Cloneable -/
def k20 : Class := { plain "java/lang/Cloneable" (some 0) with
  accessFlags := 1537
  interfaces := #[]
  cf := some (fileOf pool20 2 #[] #[] 1537 4 #[] #[])
  fields := #[]
  methods := #[]
  instanceTypes := #[]
  staticTypes := #[]
  resolved := Array.replicate 8 none
  statics := none }

/-- the primitive byte -/
def k21 : Class := { plain "byte" none with kind := .primitive 'B', accessFlags := 0x411 }
/-- [B -/
def k22 : Class := { plain "[B" (some 0) with kind := .array 21 .byte, interfaces := #[20, 2], accessFlags := 1041 }

/-- the primitive char -/
def k23 : Class := { plain "char" none with kind := .primitive 'C', accessFlags := 0x411 }
/-- [C -/
def k24 : Class := { plain "[C" (some 0) with kind := .array 23 .char, interfaces := #[20, 2], accessFlags := 1041 }

/-- the primitive int -/
def k25 : Class := { plain "int" none with kind := .primitive 'I', accessFlags := 0x411 }
/-- [I -/
def k26 : Class := { plain "[I" (some 0) with kind := .array 25 .int, interfaces := #[20, 2], accessFlags := 1041 }

def heap : Heap := #[{ cls := 7, slots := #[.long 0, .int 1, .null, .int 0, .null, .int 0, .int 0], vm := .statics 7 },
  { cls := 18, slots := #[.null, .null, .null], vm := .statics 18 }]
def classes : Array Class := #[k0, k1, k2, k3, k4, k5, k6, k7, k8, k9, k10, k11, k12, k13, k14, k15, k16, k17, k18, k19, k20, k21, k22, k23, k24, k25, k26]
def interned : List (Array UInt16 × Addr) := []
def slotsUsed : Nat := 10
def theMethod : MethodId := ⟨1, 4⟩
def args0 : Array Value := #[.int 5, .int 6, .int 7]
def aboutOver (below : List Frame) : State where
  vm := { classes := classes, interned := interned.toArray }
  heap := heap
  slotsUsed := slotsUsed
  threads := #[{ frames := .invoking theMethod args0 :: below }]
def below0 : List Frame := [.native { method := ⟨0, 0⟩, args := #[] }]
def about1 : State := aboutOver below0
def p0 : Program := .bare "" "" ""
def e0 : Env := launch0.env 0 0 0
theorem w_frames : about1.frames = Frame.invoking theMethod args0 :: below0 := rfl
set_option maxRecDepth 65536 in
theorem w_args : argsFit about1.vm theMethod args0 = true := by decide +kernel
set_option maxRecDepth 65536 in
theorem w_heap : heapFits about1 = true := by decide +kernel
set_option maxRecDepth 65536 in
theorem w_runnable : about1.curStatus? = some .runnable := by decide +kernel
set_option maxRecDepth 65536 in
theorem w_alone : about1.alone = true := by decide +kernel
set_option maxRecDepth 65536 in
theorem w_named : about1.methodNamed? x = some theMethod := by decide +kernel
set_option maxRecDepth 65536 in
theorem w_hears : about1.hears theMethod below0 = true := by decide +kernel
set_option maxRecDepth 65536 in
theorem w_ripe : about1.ripe theMethod args0 below0 = true := by decide +kernel
theorem w_running : about1.status = .running := rfl
set_option maxRecDepth 65536 in
theorem w_room : about1.hasRoom e0.platform room_1 = true :=
  launch0.hasRoom_least _ room_1 (by decide +kernel) (by decide +kernel) (by decide +kernel) (by decide +kernel) (by decide +kernel) (by decide +kernel)
theorem allAtoms_all (ts : List Jvm.Cond) (a : Array Jvm.Value) (st : Jvm.State) : (allAtoms ts).before a st = ts.all (fun c => c.before a st) := by
  induction ts with
  | nil => rfl
  | cons c t ih =>
    show (Jvm.Cond.and c (allAtoms t)).before a st = _
    rw [Jvm.Cond.before_and, ih, List.all_cons]
def words1 : List Jvm.Cond := Jvm.Cond.code x code maxLocals ret :: tables_1
/-- a 'code' word, met by the world's own term for the bytes: nothing is compared byte by byte -/
theorem code_word {y : MethodName} {bytes : ByteArray} {mx : Nat} {rt : Option FieldType} {a : Array Value} {s : State} {m : MethodId} {meth : Method} {c : Code} (h1 : s.methodNamed? y = some m) (h2 : s.vm.method? m = some meth) (h3 : meth.code = some c) (h4 : c.code = bytes)
    (h5 : (c.maxLocals == mx && c.exceptionTable.isEmpty && decide (c.maxStack ≤ mostOperands) && decide (meth.sig.returnType = rt) && !meth.locks && decide (parseMethodDescriptor y.desc = some meth.sig)) = true) : (Jvm.Cond.code y bytes mx rt).before a s = true := by
  simp only [Bool.and_eq_true, beq_iff_eq, Bool.not_eq_true', decide_eq_true_eq] at h5
  obtain ⟨⟨⟨⟨⟨g1, g2⟩, g3⟩, g4⟩, g5⟩, g6⟩ := h5
  simp [Cond.before, Cond.holds, Cond.value, h1, h2, h3, h4, g1, g2, g3, g4, g5, g6]
def isCode : Jvm.Cond → Bool
  | .code _ _ _ _ => true
  | _ => false
theorem all_split {L : List Jvm.Cond} {P : Jvm.Cond → Bool} (h1 : L.all (fun c => isCode c || P c) = true) (h2 : ∀ c ∈ L.filter isCode, P c = true) : L.all P = true := by
  refine List.all_eq_true.mpr fun c hc => ?_
  have h := List.all_eq_true.mp h1 c hc
  rcases Bool.eq_false_or_eq_true (isCode c) with hi | hi
  · exact h2 c (List.mem_filter.mpr ⟨hc, hi⟩)
  · simpa [hi] using h
set_option maxRecDepth 65536 in
theorem w_c0 : (Jvm.Cond.code x code maxLocals ret).before args0 about1 = true := code_word (m := ⟨1, 4⟩) (meth := k1m4) (c := k1c4) (by decide +kernel) rfl rfl rfl (by decide +kernel)
set_option maxRecDepth 65536 in
theorem w_c1 : (Jvm.Cond.code ({ cls := "com/example/per_group_sequences/pergroupsequences/CounterIdToStringPinLaw", name := "mk", desc := "(III)[C" } : Jvm.MethodName) method_2_code (4 : Nat) (Option.some (Jvm.ClassFile.FieldType.array Jvm.ClassFile.FieldType.char))).before args0 about1 = true := code_word (m := ⟨1, 1⟩) (meth := k1m1) (c := k1c1) (by decide +kernel) rfl rfl rfl (by decide +kernel)
set_option maxRecDepth 65536 in
theorem w_c2 : (Jvm.Cond.code ({ cls := "java/lang/String", name := "<init>", desc := "([C)V" } : Jvm.MethodName) jdk_42_method_3_code (2 : Nat) (Option.none : Option Jvm.ClassFile.FieldType)).before args0 about1 = true := code_word (m := ⟨7, 1⟩) (meth := k7m1) (c := k7c1) (by decide +kernel) rfl rfl rfl (by decide +kernel)
set_option maxRecDepth 65536 in
theorem w_c3 : (Jvm.Cond.code ({ cls := "java/lang/String", name := "<init>", desc := "([CIILjava/lang/Void;)V" } : Jvm.MethodName) jdk_42_method_149_code (6 : Nat) (Option.none : Option Jvm.ClassFile.FieldType)).before args0 about1 = true := code_word (m := ⟨7, 6⟩) (meth := k7m6) (c := k7c6) (by decide +kernel) rfl rfl rfl (by decide +kernel)
set_option maxRecDepth 65536 in
theorem w_c4 : (Jvm.Cond.code ({ cls := "java/lang/Object", name := "<init>", desc := "()V" } : Jvm.MethodName) object_method_1_code (1 : Nat) (Option.none : Option Jvm.ClassFile.FieldType)).before args0 about1 = true := code_word (m := ⟨0, 0⟩) (meth := k0m0) (c := k0c0) (by decide +kernel) rfl rfl rfl (by decide +kernel)
set_option maxRecDepth 65536 in
theorem w_c5 : (Jvm.Cond.code ({ cls := "java/lang/StringUTF16", name := "compress", desc := "([CII)[B" } : Jvm.MethodName) jdk_52_method_16_code (6 : Nat) (Option.some (Jvm.ClassFile.FieldType.array Jvm.ClassFile.FieldType.byte))).before args0 about1 = true := code_word (m := ⟨8, 2⟩) (meth := k8m2) (c := k8c2) (by decide +kernel) rfl rfl rfl (by decide +kernel)
set_option maxRecDepth 65536 in
theorem w_c6 : (Jvm.Cond.code ({ cls := "java/lang/StringUTF16", name := "compress", desc := "([CI[BII)I" } : Jvm.MethodName) jdk_52_method_21_code (7 : Nat) (Option.some Jvm.ClassFile.FieldType.int)).before args0 about1 = true := code_word (m := ⟨8, 3⟩) (meth := k8m3) (c := k8c3) (by decide +kernel) rfl rfl rfl (by decide +kernel)
set_option maxRecDepth 65536 in
theorem w_c7 : (Jvm.Cond.code ({ cls := "java/lang/StringUTF16", name := "coderFromArrayLen", desc := "([BI)B" } : Jvm.MethodName) jdk_52_method_15_code (2 : Nat) (Option.some Jvm.ClassFile.FieldType.byte)).before args0 about1 = true := code_word (m := ⟨8, 1⟩) (meth := k8m1) (c := k8c1) (by decide +kernel) rfl rfl rfl (by decide +kernel)
set_option maxRecDepth 65536 in
theorem w_c8 : (Jvm.Cond.code ({ cls := "com/example/per_group_sequences/pergroupsequences/CounterId", name := "<init>", desc := "(Ljava/lang/String;Ljava/lang/String;)V" } : Jvm.MethodName) prog_9_method_1_code (3 : Nat) (Option.none : Option Jvm.ClassFile.FieldType)).before args0 about1 = true := code_word (m := ⟨9, 0⟩) (meth := k9m0) (c := k9c0) (by decide +kernel) rfl rfl rfl (by decide +kernel)
set_option maxRecDepth 65536 in
theorem w_c9 : (Jvm.Cond.code ({ cls := "java/util/Objects", name := "requireNonNull", desc := "(Ljava/lang/Object;Ljava/lang/String;)Ljava/lang/Object;" } : Jvm.MethodName) jdk_31_method_11_code (2 : Nat) (Option.some (Jvm.ClassFile.FieldType.object "java/lang/Object"))).before args0 about1 = true := code_word (m := ⟨10, 1⟩) (meth := k10m1) (c := k10c1) (by decide +kernel) rfl rfl rfl (by decide +kernel)
set_option maxRecDepth 65536 in
theorem w_c10 : (Jvm.Cond.code ({ cls := "com/example/per_group_sequences/pergroupsequences/CounterId", name := "toString", desc := "()Ljava/lang/String;" } : Jvm.MethodName) prog_9_method_6_code (1 : Nat) (Option.some (Jvm.ClassFile.FieldType.object "java/lang/String"))).before args0 about1 = true := code_word (m := ⟨9, 1⟩) (meth := k9m1) (c := k9c1) (by decide +kernel) rfl rfl rfl (by decide +kernel)
set_option maxRecDepth 65536 in
theorem w_c11 : (Jvm.Cond.code ({ cls := "java/lang/StringBuilder", name := "<init>", desc := "()V" } : Jvm.MethodName) jdk_67_method_1_code (1 : Nat) (Option.none : Option Jvm.ClassFile.FieldType)).before args0 about1 = true := code_word (m := ⟨13, 0⟩) (meth := k13m0) (c := k13c0) (by decide +kernel) rfl rfl rfl (by decide +kernel)
set_option maxRecDepth 65536 in
theorem w_c12 : (Jvm.Cond.code ({ cls := "java/lang/AbstractStringBuilder", name := "<init>", desc := "(I)V" } : Jvm.MethodName) jdk_68_method_2_code (2 : Nat) (Option.none : Option Jvm.ClassFile.FieldType)).before args0 about1 = true := code_word (m := ⟨12, 1⟩) (meth := k12m1) (c := k12c1) (by decide +kernel) rfl rfl rfl (by decide +kernel)
set_option maxRecDepth 65536 in
theorem w_c13 : (Jvm.Cond.code ({ cls := "java/lang/StringBuilder", name := "append", desc := "(Ljava/lang/String;)Ljava/lang/StringBuilder;" } : Jvm.MethodName) jdk_67_method_7_code (2 : Nat) (Option.some (Jvm.ClassFile.FieldType.object "java/lang/StringBuilder"))).before args0 about1 = true := code_word (m := ⟨13, 1⟩) (meth := k13m1) (c := k13c1) (by decide +kernel) rfl rfl rfl (by decide +kernel)
set_option maxRecDepth 65536 in
theorem w_c14 : (Jvm.Cond.code ({ cls := "java/lang/AbstractStringBuilder", name := "append", desc := "(Ljava/lang/String;)Ljava/lang/AbstractStringBuilder;" } : Jvm.MethodName) jdk_68_method_22_code (3 : Nat) (Option.some (Jvm.ClassFile.FieldType.object "java/lang/AbstractStringBuilder"))).before args0 about1 = true := code_word (m := ⟨12, 4⟩) (meth := k12m4) (c := k12c4) (by decide +kernel) rfl rfl rfl (by decide +kernel)
set_option maxRecDepth 65536 in
theorem w_c15 : (Jvm.Cond.code ({ cls := "java/lang/String", name := "length", desc := "()I" } : Jvm.MethodName) jdk_42_method_54_code (1 : Nat) (Option.some Jvm.ClassFile.FieldType.int)).before args0 about1 = true := code_word (m := ⟨7, 3⟩) (meth := k7m3) (c := k7c3) (by decide +kernel) rfl rfl rfl (by decide +kernel)
set_option maxRecDepth 65536 in
theorem w_c16 : (Jvm.Cond.code ({ cls := "java/lang/String", name := "coder", desc := "()B" } : Jvm.MethodName) jdk_42_method_152_code (1 : Nat) (Option.some Jvm.ClassFile.FieldType.byte)).before args0 about1 = true := code_word (m := ⟨7, 8⟩) (meth := k7m8) (c := k7c8) (by decide +kernel) rfl rfl rfl (by decide +kernel)
set_option maxRecDepth 65536 in
theorem w_c17 : (Jvm.Cond.code ({ cls := "java/lang/AbstractStringBuilder", name := "ensureCapacityInternal", desc := "(I)V" } : Jvm.MethodName) jdk_68_method_9_code (3 : Nat) (Option.none : Option Jvm.ClassFile.FieldType)).before args0 about1 = true := code_word (m := ⟨12, 3⟩) (meth := k12m3) (c := k12c3) (by decide +kernel) rfl rfl rfl (by decide +kernel)
set_option maxRecDepth 65536 in
theorem w_c18 : (Jvm.Cond.code ({ cls := "java/lang/AbstractStringBuilder", name := "putStringAt", desc := "(ILjava/lang/String;)V" } : Jvm.MethodName) jdk_68_method_73_code (3 : Nat) (Option.none : Option Jvm.ClassFile.FieldType)).before args0 about1 = true := code_word (m := ⟨12, 8⟩) (meth := k12m8) (c := k12c8) (by decide +kernel) rfl rfl rfl (by decide +kernel)
set_option maxRecDepth 65536 in
theorem w_c19 : (Jvm.Cond.code ({ cls := "java/lang/AbstractStringBuilder", name := "inflateIfNeededFor", desc := "(Ljava/lang/String;)V" } : Jvm.MethodName) jdk_68_method_71_code (2 : Nat) (Option.none : Option Jvm.ClassFile.FieldType)).before args0 about1 = true := code_word (m := ⟨12, 7⟩) (meth := k12m7) (c := k12c7) (by decide +kernel) rfl rfl rfl (by decide +kernel)
set_option maxRecDepth 65536 in
theorem w_c20 : (Jvm.Cond.code ({ cls := "java/lang/String", name := "getBytes", desc := "([BIB)V" } : Jvm.MethodName) jdk_42_method_147_code (4 : Nat) (Option.none : Option Jvm.ClassFile.FieldType)).before args0 about1 = true := code_word (m := ⟨7, 5⟩) (meth := k7m5) (c := k7c5) (by decide +kernel) rfl rfl rfl (by decide +kernel)
set_option maxRecDepth 65536 in
theorem w_c21 : (Jvm.Cond.code ({ cls := "java/lang/StringBuilder", name := "toString", desc := "()Ljava/lang/String;" } : Jvm.MethodName) jdk_67_method_42_code (1 : Nat) (Option.some (Jvm.ClassFile.FieldType.object "java/lang/String"))).before args0 about1 = true := code_word (m := ⟨13, 2⟩) (meth := k13m2) (c := k13c2) (by decide +kernel) rfl rfl rfl (by decide +kernel)
set_option maxRecDepth 65536 in
theorem w_c22 : (Jvm.Cond.code ({ cls := "java/lang/String", name := "<init>", desc := "(Ljava/lang/StringBuilder;)V" } : Jvm.MethodName) jdk_42_method_53_code (2 : Nat) (Option.none : Option Jvm.ClassFile.FieldType)).before args0 about1 = true := code_word (m := ⟨7, 2⟩) (meth := k7m2) (c := k7c2) (by decide +kernel) rfl rfl rfl (by decide +kernel)
set_option maxRecDepth 65536 in
theorem w_c23 : (Jvm.Cond.code ({ cls := "java/lang/String", name := "<init>", desc := "(Ljava/lang/AbstractStringBuilder;Ljava/lang/Void;)V" } : Jvm.MethodName) jdk_42_method_150_code (5 : Nat) (Option.none : Option Jvm.ClassFile.FieldType)).before args0 about1 = true := code_word (m := ⟨7, 7⟩) (meth := k7m7) (c := k7c7) (by decide +kernel) rfl rfl rfl (by decide +kernel)
set_option maxRecDepth 65536 in
theorem w_c24 : (Jvm.Cond.code ({ cls := "java/lang/AbstractStringBuilder", name := "getValue", desc := "()[B" } : Jvm.MethodName) jdk_68_method_64_code (1 : Nat) (Option.some (Jvm.ClassFile.FieldType.array Jvm.ClassFile.FieldType.byte))).before args0 about1 = true := code_word (m := ⟨12, 5⟩) (meth := k12m5) (c := k12c5) (by decide +kernel) rfl rfl rfl (by decide +kernel)
set_option maxRecDepth 65536 in
theorem w_c25 : (Jvm.Cond.code ({ cls := "java/lang/StringBuilder", name := "length", desc := "()I" } : Jvm.MethodName) jdk_67_method_93_code (1 : Nat) (Option.some Jvm.ClassFile.FieldType.int)).before args0 about1 = true := code_word (m := ⟨13, 3⟩) (meth := k13m3) (c := k13c3) (by decide +kernel) rfl rfl rfl (by decide +kernel)
set_option maxRecDepth 65536 in
theorem w_c26 : (Jvm.Cond.code ({ cls := "java/lang/AbstractStringBuilder", name := "length", desc := "()I" } : Jvm.MethodName) jdk_68_method_6_code (1 : Nat) (Option.some Jvm.ClassFile.FieldType.int)).before args0 about1 = true := code_word (m := ⟨12, 2⟩) (meth := k12m2) (c := k12c2) (by decide +kernel) rfl rfl rfl (by decide +kernel)
set_option maxRecDepth 65536 in
theorem w_c27 : (Jvm.Cond.code ({ cls := "java/lang/AbstractStringBuilder", name := "isLatin1", desc := "()Z" } : Jvm.MethodName) jdk_68_method_68_code (1 : Nat) (Option.some Jvm.ClassFile.FieldType.boolean)).before args0 about1 = true := code_word (m := ⟨12, 6⟩) (meth := k12m6) (c := k12c6) (by decide +kernel) rfl rfl rfl (by decide +kernel)
set_option maxRecDepth 65536 in
theorem w_c28 : (Jvm.Cond.code ({ cls := "java/util/Arrays", name := "copyOfRange", desc := "([BII)[B" } : Jvm.MethodName) jdk_65_method_132_code (3 : Nat) (Option.some (Jvm.ClassFile.FieldType.array Jvm.ClassFile.FieldType.byte))).before args0 about1 = true := code_word (m := ⟨15, 2⟩) (meth := k15m2) (c := k15c2) (by decide +kernel) rfl rfl rfl (by decide +kernel)
set_option maxRecDepth 65536 in
theorem w_c29 : (Jvm.Cond.code ({ cls := "java/util/Arrays", name := "copyOfRangeByte", desc := "([BII)[B" } : Jvm.MethodName) jdk_65_method_133_code (5 : Nat) (Option.some (Jvm.ClassFile.FieldType.array Jvm.ClassFile.FieldType.byte))).before args0 about1 = true := code_word (m := ⟨15, 3⟩) (meth := k15m3) (c := k15c3) (by decide +kernel) rfl rfl rfl (by decide +kernel)
set_option maxRecDepth 65536 in
theorem w_c30 : (Jvm.Cond.code ({ cls := "java/util/Arrays", name := "checkLength", desc := "(II)V" } : Jvm.MethodName) jdk_65_method_131_code (2 : Nat) (Option.none : Option Jvm.ClassFile.FieldType)).before args0 about1 = true := code_word (m := ⟨15, 1⟩) (meth := k15m1) (c := k15c1) (by decide +kernel) rfl rfl rfl (by decide +kernel)
set_option maxRecDepth 65536 in
theorem w_c31 : (Jvm.Cond.code ({ cls := "java/lang/Math", name := "min", desc := "(II)I" } : Jvm.MethodName) jdk_29_method_69_code (2 : Nat) (Option.some Jvm.ClassFile.FieldType.int)).before args0 about1 = true := code_word (m := ⟨16, 1⟩) (meth := k16m1) (c := k16c1) (by decide +kernel) rfl rfl rfl (by decide +kernel)
set_option maxRecDepth 65536 in
theorem w_c32 : (Jvm.Cond.code ({ cls := "com/example/per_group_sequences/pergroupsequences/CounterIdToStringPinLaw", name := "at", desc := "(Ljava/lang/String;I)I" } : Jvm.MethodName) method_4_code (2 : Nat) (Option.some Jvm.ClassFile.FieldType.int)).before args0 about1 = true := code_word (m := ⟨1, 3⟩) (meth := k1m3) (c := k1c3) (by decide +kernel) rfl rfl rfl (by decide +kernel)
set_option maxRecDepth 65536 in
theorem w_c33 : (Jvm.Cond.code ({ cls := "java/lang/String", name := "charAt", desc := "(I)C" } : Jvm.MethodName) jdk_42_method_56_code (2 : Nat) (Option.some Jvm.ClassFile.FieldType.char)).before args0 about1 = true := code_word (m := ⟨7, 4⟩) (meth := k7m4) (c := k7c4) (by decide +kernel) rfl rfl rfl (by decide +kernel)
set_option maxRecDepth 65536 in
theorem w_c34 : (Jvm.Cond.code ({ cls := "java/lang/String", name := "isLatin1", desc := "()Z" } : Jvm.MethodName) jdk_42_method_154_code (1 : Nat) (Option.some Jvm.ClassFile.FieldType.boolean)).before args0 about1 = true := code_word (m := ⟨7, 9⟩) (meth := k7m9) (c := k7c9) (by decide +kernel) rfl rfl rfl (by decide +kernel)
set_option maxRecDepth 65536 in
theorem w_c35 : (Jvm.Cond.code ({ cls := "java/lang/StringLatin1", name := "charAt", desc := "([BI)C" } : Jvm.MethodName) jdk_43_method_2_code (2 : Nat) (Option.some Jvm.ClassFile.FieldType.char)).before args0 about1 = true := code_word (m := ⟨17, 1⟩) (meth := k17m1) (c := k17c1) (by decide +kernel) rfl rfl rfl (by decide +kernel)
set_option maxRecDepth 65536 in
theorem w_c36 : (Jvm.Cond.code ({ cls := "java/lang/String", name := "checkIndex", desc := "(II)V" } : Jvm.MethodName) jdk_42_method_155_code (2 : Nat) (Option.none : Option Jvm.ClassFile.FieldType)).before args0 about1 = true := code_word (m := ⟨7, 10⟩) (meth := k7m10) (c := k7c10) (by decide +kernel) rfl rfl rfl (by decide +kernel)
set_option maxRecDepth 65536 in
theorem w_c37 : (Jvm.Cond.code ({ cls := "jdk/internal/util/Preconditions", name := "checkIndex", desc := "(IILjava/util/function/BiFunction;)I" } : Jvm.MethodName) jdk_41_method_11_code (3 : Nat) (Option.some Jvm.ClassFile.FieldType.int)).before args0 about1 = true := code_word (m := ⟨18, 1⟩) (meth := k18m1) (c := k18c1) (by decide +kernel) rfl rfl rfl (by decide +kernel)
set_option maxRecDepth 65536 in
theorem w_c38 : (Jvm.Cond.code ({ cls := "com/example/per_group_sequences/pergroupsequences/CounterIdToStringPinLaw", name := "exp", desc := "(IIIIIII)I" } : Jvm.MethodName) method_3_code (7 : Nat) (Option.some Jvm.ClassFile.FieldType.int)).before args0 about1 = true := code_word (m := ⟨1, 2⟩) (meth := k1m2) (c := k1c2) (by decide +kernel) rfl rfl rfl (by decide +kernel)
def codes1 : List Jvm.Cond := [Jvm.Cond.code x code maxLocals ret, Jvm.Cond.code ({ cls := "com/example/per_group_sequences/pergroupsequences/CounterIdToStringPinLaw", name := "mk", desc := "(III)[C" } : Jvm.MethodName) method_2_code (4 : Nat) (Option.some (Jvm.ClassFile.FieldType.array Jvm.ClassFile.FieldType.char)), Jvm.Cond.code ({ cls := "java/lang/String", name := "<init>", desc := "([C)V" } : Jvm.MethodName) jdk_42_method_3_code (2 : Nat) (Option.none : Option Jvm.ClassFile.FieldType), Jvm.Cond.code ({ cls := "java/lang/String", name := "<init>", desc := "([CIILjava/lang/Void;)V" } : Jvm.MethodName) jdk_42_method_149_code (6 : Nat) (Option.none : Option Jvm.ClassFile.FieldType), Jvm.Cond.code ({ cls := "java/lang/Object", name := "<init>", desc := "()V" } : Jvm.MethodName) object_method_1_code (1 : Nat) (Option.none : Option Jvm.ClassFile.FieldType), Jvm.Cond.code ({ cls := "java/lang/StringUTF16", name := "compress", desc := "([CII)[B" } : Jvm.MethodName) jdk_52_method_16_code (6 : Nat) (Option.some (Jvm.ClassFile.FieldType.array Jvm.ClassFile.FieldType.byte)), Jvm.Cond.code ({ cls := "java/lang/StringUTF16", name := "compress", desc := "([CI[BII)I" } : Jvm.MethodName) jdk_52_method_21_code (7 : Nat) (Option.some Jvm.ClassFile.FieldType.int), Jvm.Cond.code ({ cls := "java/lang/StringUTF16", name := "coderFromArrayLen", desc := "([BI)B" } : Jvm.MethodName) jdk_52_method_15_code (2 : Nat) (Option.some Jvm.ClassFile.FieldType.byte), Jvm.Cond.code ({ cls := "com/example/per_group_sequences/pergroupsequences/CounterId", name := "<init>", desc := "(Ljava/lang/String;Ljava/lang/String;)V" } : Jvm.MethodName) prog_9_method_1_code (3 : Nat) (Option.none : Option Jvm.ClassFile.FieldType), Jvm.Cond.code ({ cls := "java/util/Objects", name := "requireNonNull", desc := "(Ljava/lang/Object;Ljava/lang/String;)Ljava/lang/Object;" } : Jvm.MethodName) jdk_31_method_11_code (2 : Nat) (Option.some (Jvm.ClassFile.FieldType.object "java/lang/Object")), Jvm.Cond.code ({ cls := "com/example/per_group_sequences/pergroupsequences/CounterId", name := "toString", desc := "()Ljava/lang/String;" } : Jvm.MethodName) prog_9_method_6_code (1 : Nat) (Option.some (Jvm.ClassFile.FieldType.object "java/lang/String")), Jvm.Cond.code ({ cls := "java/lang/StringBuilder", name := "<init>", desc := "()V" } : Jvm.MethodName) jdk_67_method_1_code (1 : Nat) (Option.none : Option Jvm.ClassFile.FieldType), Jvm.Cond.code ({ cls := "java/lang/AbstractStringBuilder", name := "<init>", desc := "(I)V" } : Jvm.MethodName) jdk_68_method_2_code (2 : Nat) (Option.none : Option Jvm.ClassFile.FieldType), Jvm.Cond.code ({ cls := "java/lang/StringBuilder", name := "append", desc := "(Ljava/lang/String;)Ljava/lang/StringBuilder;" } : Jvm.MethodName) jdk_67_method_7_code (2 : Nat) (Option.some (Jvm.ClassFile.FieldType.object "java/lang/StringBuilder")), Jvm.Cond.code ({ cls := "java/lang/AbstractStringBuilder", name := "append", desc := "(Ljava/lang/String;)Ljava/lang/AbstractStringBuilder;" } : Jvm.MethodName) jdk_68_method_22_code (3 : Nat) (Option.some (Jvm.ClassFile.FieldType.object "java/lang/AbstractStringBuilder")), Jvm.Cond.code ({ cls := "java/lang/String", name := "length", desc := "()I" } : Jvm.MethodName) jdk_42_method_54_code (1 : Nat) (Option.some Jvm.ClassFile.FieldType.int), Jvm.Cond.code ({ cls := "java/lang/String", name := "coder", desc := "()B" } : Jvm.MethodName) jdk_42_method_152_code (1 : Nat) (Option.some Jvm.ClassFile.FieldType.byte), Jvm.Cond.code ({ cls := "java/lang/AbstractStringBuilder", name := "ensureCapacityInternal", desc := "(I)V" } : Jvm.MethodName) jdk_68_method_9_code (3 : Nat) (Option.none : Option Jvm.ClassFile.FieldType), Jvm.Cond.code ({ cls := "java/lang/AbstractStringBuilder", name := "putStringAt", desc := "(ILjava/lang/String;)V" } : Jvm.MethodName) jdk_68_method_73_code (3 : Nat) (Option.none : Option Jvm.ClassFile.FieldType), Jvm.Cond.code ({ cls := "java/lang/AbstractStringBuilder", name := "inflateIfNeededFor", desc := "(Ljava/lang/String;)V" } : Jvm.MethodName) jdk_68_method_71_code (2 : Nat) (Option.none : Option Jvm.ClassFile.FieldType), Jvm.Cond.code ({ cls := "java/lang/String", name := "getBytes", desc := "([BIB)V" } : Jvm.MethodName) jdk_42_method_147_code (4 : Nat) (Option.none : Option Jvm.ClassFile.FieldType), Jvm.Cond.code ({ cls := "java/lang/StringBuilder", name := "toString", desc := "()Ljava/lang/String;" } : Jvm.MethodName) jdk_67_method_42_code (1 : Nat) (Option.some (Jvm.ClassFile.FieldType.object "java/lang/String")), Jvm.Cond.code ({ cls := "java/lang/String", name := "<init>", desc := "(Ljava/lang/StringBuilder;)V" } : Jvm.MethodName) jdk_42_method_53_code (2 : Nat) (Option.none : Option Jvm.ClassFile.FieldType), Jvm.Cond.code ({ cls := "java/lang/String", name := "<init>", desc := "(Ljava/lang/AbstractStringBuilder;Ljava/lang/Void;)V" } : Jvm.MethodName) jdk_42_method_150_code (5 : Nat) (Option.none : Option Jvm.ClassFile.FieldType), Jvm.Cond.code ({ cls := "java/lang/AbstractStringBuilder", name := "getValue", desc := "()[B" } : Jvm.MethodName) jdk_68_method_64_code (1 : Nat) (Option.some (Jvm.ClassFile.FieldType.array Jvm.ClassFile.FieldType.byte)), Jvm.Cond.code ({ cls := "java/lang/StringBuilder", name := "length", desc := "()I" } : Jvm.MethodName) jdk_67_method_93_code (1 : Nat) (Option.some Jvm.ClassFile.FieldType.int), Jvm.Cond.code ({ cls := "java/lang/AbstractStringBuilder", name := "length", desc := "()I" } : Jvm.MethodName) jdk_68_method_6_code (1 : Nat) (Option.some Jvm.ClassFile.FieldType.int), Jvm.Cond.code ({ cls := "java/lang/AbstractStringBuilder", name := "isLatin1", desc := "()Z" } : Jvm.MethodName) jdk_68_method_68_code (1 : Nat) (Option.some Jvm.ClassFile.FieldType.boolean), Jvm.Cond.code ({ cls := "java/util/Arrays", name := "copyOfRange", desc := "([BII)[B" } : Jvm.MethodName) jdk_65_method_132_code (3 : Nat) (Option.some (Jvm.ClassFile.FieldType.array Jvm.ClassFile.FieldType.byte)), Jvm.Cond.code ({ cls := "java/util/Arrays", name := "copyOfRangeByte", desc := "([BII)[B" } : Jvm.MethodName) jdk_65_method_133_code (5 : Nat) (Option.some (Jvm.ClassFile.FieldType.array Jvm.ClassFile.FieldType.byte)), Jvm.Cond.code ({ cls := "java/util/Arrays", name := "checkLength", desc := "(II)V" } : Jvm.MethodName) jdk_65_method_131_code (2 : Nat) (Option.none : Option Jvm.ClassFile.FieldType), Jvm.Cond.code ({ cls := "java/lang/Math", name := "min", desc := "(II)I" } : Jvm.MethodName) jdk_29_method_69_code (2 : Nat) (Option.some Jvm.ClassFile.FieldType.int), Jvm.Cond.code ({ cls := "com/example/per_group_sequences/pergroupsequences/CounterIdToStringPinLaw", name := "at", desc := "(Ljava/lang/String;I)I" } : Jvm.MethodName) method_4_code (2 : Nat) (Option.some Jvm.ClassFile.FieldType.int), Jvm.Cond.code ({ cls := "java/lang/String", name := "charAt", desc := "(I)C" } : Jvm.MethodName) jdk_42_method_56_code (2 : Nat) (Option.some Jvm.ClassFile.FieldType.char), Jvm.Cond.code ({ cls := "java/lang/String", name := "isLatin1", desc := "()Z" } : Jvm.MethodName) jdk_42_method_154_code (1 : Nat) (Option.some Jvm.ClassFile.FieldType.boolean), Jvm.Cond.code ({ cls := "java/lang/StringLatin1", name := "charAt", desc := "([BI)C" } : Jvm.MethodName) jdk_43_method_2_code (2 : Nat) (Option.some Jvm.ClassFile.FieldType.char), Jvm.Cond.code ({ cls := "java/lang/String", name := "checkIndex", desc := "(II)V" } : Jvm.MethodName) jdk_42_method_155_code (2 : Nat) (Option.none : Option Jvm.ClassFile.FieldType), Jvm.Cond.code ({ cls := "jdk/internal/util/Preconditions", name := "checkIndex", desc := "(IILjava/util/function/BiFunction;)I" } : Jvm.MethodName) jdk_41_method_11_code (3 : Nat) (Option.some Jvm.ClassFile.FieldType.int), Jvm.Cond.code ({ cls := "com/example/per_group_sequences/pergroupsequences/CounterIdToStringPinLaw", name := "exp", desc := "(IIIIIII)I" } : Jvm.MethodName) method_3_code (7 : Nat) (Option.some Jvm.ClassFile.FieldType.int)]
set_option maxRecDepth 65536 in
theorem codes_eq : words1.filter isCode = codes1 := rfl
theorem w_codes : ∀ c ∈ words1.filter isCode, c.before args0 about1 = true := by
  rw [codes_eq]
  intro c hc
  simp only [codes1, List.mem_cons, List.not_mem_nil, or_false] at hc
  rcases hc with rfl | rfl | rfl | rfl | rfl | rfl | rfl | rfl | rfl | rfl | rfl | rfl | rfl | rfl | rfl | rfl | rfl | rfl | rfl | rfl | rfl | rfl | rfl | rfl | rfl | rfl | rfl | rfl | rfl | rfl | rfl | rfl | rfl | rfl | rfl | rfl | rfl | rfl | rfl
  · exact w_c0
  · exact w_c1
  · exact w_c2
  · exact w_c3
  · exact w_c4
  · exact w_c5
  · exact w_c6
  · exact w_c7
  · exact w_c8
  · exact w_c9
  · exact w_c10
  · exact w_c11
  · exact w_c12
  · exact w_c13
  · exact w_c14
  · exact w_c15
  · exact w_c16
  · exact w_c17
  · exact w_c18
  · exact w_c19
  · exact w_c20
  · exact w_c21
  · exact w_c22
  · exact w_c23
  · exact w_c24
  · exact w_c25
  · exact w_c26
  · exact w_c27
  · exact w_c28
  · exact w_c29
  · exact w_c30
  · exact w_c31
  · exact w_c32
  · exact w_c33
  · exact w_c34
  · exact w_c35
  · exact w_c36
  · exact w_c37
  · exact w_c38
set_option maxRecDepth 65536 in
theorem w_t1 : (words1.take 24).all (fun c => isCode c || c.before args0 about1) = true := by decide +kernel
set_option maxRecDepth 65536 in
theorem w_t2 : ((words1.drop 24).take 24).all (fun c => isCode c || c.before args0 about1) = true := by decide +kernel
set_option maxRecDepth 65536 in
theorem w_t3 : (((words1.drop 24).drop 24).take 24).all (fun c => isCode c || c.before args0 about1) = true := by decide +kernel
set_option maxRecDepth 65536 in
theorem w_t4 : ((((words1.drop 24).drop 24).drop 24).take 24).all (fun c => isCode c || c.before args0 about1) = true := by decide +kernel
set_option maxRecDepth 65536 in
theorem w_t5 : (((((words1.drop 24).drop 24).drop 24).drop 24).take 24).all (fun c => isCode c || c.before args0 about1) = true := by decide +kernel
set_option maxRecDepth 65536 in
theorem w_t6 : ((((((words1.drop 24).drop 24).drop 24).drop 24).drop 24).take 24).all (fun c => isCode c || c.before args0 about1) = true := by decide +kernel
set_option maxRecDepth 65536 in
theorem w_t7 : (((((((words1.drop 24).drop 24).drop 24).drop 24).drop 24).drop 24).take 24).all (fun c => isCode c || c.before args0 about1) = true := by decide +kernel
set_option maxRecDepth 65536 in
theorem w_t8 : ((((((((words1.drop 24).drop 24).drop 24).drop 24).drop 24).drop 24).drop 24).take 24).all (fun c => isCode c || c.before args0 about1) = true := by decide +kernel
set_option maxRecDepth 65536 in
theorem w_t9 : ((((((((words1.drop 24).drop 24).drop 24).drop 24).drop 24).drop 24).drop 24).drop 24).all (fun c => isCode c || c.before args0 about1) = true := by decide +kernel
theorem w_tables : (allAtoms (Jvm.Cond.code x code maxLocals ret :: tables_1)).before args0 about1 = true := by
  rw [allAtoms_all]
  show words1.all (fun c => c.before args0 about1) = true
  refine all_split ?_ w_codes
  rw [← List.take_append_drop 24 words1, List.all_append, w_t1, ← List.take_append_drop 24 (words1.drop 24), List.all_append, w_t2, ← List.take_append_drop 24 ((words1.drop 24).drop 24), List.all_append, w_t3, ← List.take_append_drop 24 (((words1.drop 24).drop 24).drop 24), List.all_append, w_t4, ← List.take_append_drop 24 ((((words1.drop 24).drop 24).drop 24).drop 24), List.all_append, w_t5, ← List.take_append_drop 24 (((((words1.drop 24).drop 24).drop 24).drop 24).drop 24), List.all_append, w_t6, ← List.take_append_drop 24 ((((((words1.drop 24).drop 24).drop 24).drop 24).drop 24).drop 24), List.all_append, w_t7, ← List.take_append_drop 24 (((((((words1.drop 24).drop 24).drop 24).drop 24).drop 24).drop 24).drop 24), List.all_append, w_t8, w_t9]
  rfl
set_option maxRecDepth 65536 in
theorem w_rest : rest_1_c.before args0 about1 = true := by decide +kernel
set_option maxRecDepth 65536 in
theorem w_case : (Jvm.Cond.and given_1 narrow_1).before args0 about1 = true := by decide +kernel
set_option maxRecDepth 65536 in
theorem w_consts : constsHeld consts_1 about1 := Jvm.Lit.constsHeldB_iff.mp (by decide +kernel)
theorem w_applies : (headSpec (Jvm.Cond.code x code maxLocals ret :: tables_1) room_1).applies x e0.platform about1 = true :=
  (Spec.applies_iff w_frames).mpr ⟨w_running, w_runnable, w_alone, w_named, w_hears, w_ripe, w_room, w_tables⟩
theorem atStart : AtStart classFile x code maxLocals ret World_1 tables_1 room_1 Calls_1 rest_1 Pre_1 launch0 p0 e0 about1 theMethod args0 below0 :=
  ⟨lists_1, trivial, launch0.admits_env _ _ _, launch0.least_env, fairChoices_fair.cas, fairChoices_fair.clock, w_frames, w_args, w_heap, w_applies, ⟨w_consts, trivial⟩, w_rest, w_case⟩
end start1
theorem witness_1 : WitnessClaimed_1 := ⟨start1.p0, start1.e0, start1.about1, start1.theMethod, start1.args0, start1.below0, start1.atStart⟩
end Jvm.Pilot.@@N@@
