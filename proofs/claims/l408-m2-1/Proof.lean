import JvmDerived
import JvmDerived.Pilot.@@N@@Statement
import JvmDerived.Pilot.@@N@@Code
set_option linter.unusedVariables false
set_option linter.unusedSimpArgs false


namespace Jvm.RoadKit
open Sem ClassFile Op Lib Jvm.Stand Jvm.Free Jvm.LawKit
section Own
variable {Z : State} {h h0 h' : Heap} {a b : Addr} {k : ClassId} {n j : Int32} {vs : List Value} {dv : Value}
theorem Arv.inb {ty : FieldType} (A : Arv Z h a k ty n vs dv) (h1 : ¬ j < 0) (h2 : j < n) : ∃ c, Arr Z h a c ty ∧ c.cls = k ∧ c.slots.size = n.toNatClampNeg ∧ ¬ n < 0 ∧ Has c vs dv ∧ (∀ i, i < c.slots.size → fits ty (vs.getD i dv) = true) ∧ ¬ (j < 0 ∨ c.slots.size ≤ j.toNatClampNeg) := by
  obtain ⟨c, A1, A2, A3, A4, A5, A6⟩ := A
  exact ⟨c, A1, A2, A3, A4, A5, A6, inb_of A3 ⟨h1, h2⟩⟩
theorem Ext.keepN (E : Ext h0 h) (K : Keep h h' [b]) (q : h0.size ≤ b) : Ext h0 h' := ⟨Nat.le_trans E.1 K.1, fun x c hx => K.2.1 x c (E.2 x c hx) fun z => by
  cases List.mem_singleton.mp z
  exact absurd (Array.getElem?_eq_some_iff.mp hx).1 (Nat.not_lt.mpr q)⟩
theorem Ext.keepL {ws : List Addr} (E : Ext h0 h) (K : Keep h h' ws) (q : ∀ x ∈ ws, h0.size ≤ x) : Ext h0 h' := ⟨Nat.le_trans E.1 K.1, fun x c hx => K.2.1 x c (E.2 x c hx) fun z => absurd (Array.getElem?_eq_some_iff.mp hx).1 (Nat.not_lt.mpr (q x z))⟩
theorem Ext.rfl' : Ext h h := ⟨Nat.le_refl _, fun _ _ q => q⟩
theorem Ext.tr {h1 : Heap} (E : Ext h h1) (E' : Ext h1 h') : Ext h h' := ⟨Nat.le_trans E.1 E'.1, fun x c q => E'.2 x c (E.2 x c q)⟩
theorem Ext.wrN {sl : Nat} {v : Value} (E : Ext h0 h) (W : Wr h h' a sl v) (q : h0.size ≤ a) : Ext h0 h' := E.keepN (Keep.of_wr W) q
end Own
end Jvm.RoadKit
namespace Jvm.OwnKit
open Sem ClassFile Op Lib Jvm.Stand Jvm.Free Jvm.LawKit Jvm.RoadKit
/-- the unsigned shifts, the comparing of longs, as the machine spells them -/
abbrev ushr (x y : Int32) : Int32 := (x.toUInt32 >>> (y &&& 31).toUInt32).toInt32
abbrev ushrL (x : Int64) (y : Int32) : Int64 := (x.toUInt64 >>> (y &&& 63).toInt64.toUInt64).toInt64
abbrev cmpL (x y : Int64) : Int32 := if x > y then 1 else if x = y then 0 else -1
/-- the data of one walk of one body -/
abbrev Cx : Type := Program × Launch × Env × Room × State × MethodId × Array Value × List Frame × Method × Code × Nat × (Option Value → Heap → Prop)
/-- from this pc, these locals, this stack and this heap the body comes to its end as promised -/
def Go : Cx → Heap → Nat → Nat → Nat → Array Slot → List Value → Prop
  | (p, l, e, R, s, m, args, below, meth, c, n0, Q), h, ce, sl, pc, ls, st =>
    ∀ (T : State) (locs : List Loc), Stand p l e R s m args below meth c T locs ce sl → T.heap = h → Fr n0 locs →
      ∃ (s₂ : State) (o : Outcome), Steps p.tables e below (T.setTop (mkF m pc ls st)) s₂ ∧ s₂.status = .running ∧ Ended s₂ below o ∧
        ∃ (v : Option Value) (L : List Loc), o = .returned v ∧ (Fr n0 L ∧ Q v s₂.heap) ∧ FrameEnd s o s₂ L R.cells R.slots
/-- what is known of a walk's data -/
def Amb : Cx → Launch → State → MethodName → ByteArray → Nat → Option FieldType → Room → Heap → Nat → (Option Value → Heap → Prop) → Prop
  | (p, l', e, R, s, m, args, below, meth, c, n0', Q'), l, Z, y, code, maxL, ret, rm, h0, n0, Q =>
    l' = l ∧ R = rm ∧ n0' = n0 ∧ (∀ v h, Q v h → Q' v h) ∧ p.tables.exec = Jvm.exec ∧ Z.Warmed39 s.vm ∧ s.vm.findClass y.cls = some m.cls ∧ c.code = code ∧ c.maxLocals = maxL ∧ meth.sig.returnType = ret ∧ meth.locks = false ∧ meth.name = y.name ∧ s.heap = h0
/-- a body's contract -/
def Con (l : Launch) (Z : State) (y : MethodName) (code : ByteArray) (maxL : Nat) (ret : Option FieldType) (rm : Room) (ws : List Jvm.Cond) (as : Array Value) (h0 : Heap) (n0 : Nat) (Q : Option Value → Heap → Prop) : Prop :=
  MetFree l y (head1 (Jvm.Cond.code y code maxL ret :: ws) rm) (fun a U => a = as ∧ Z.Warmed39 U.vm ∧ U.heap = h0) (fun _ _ _ _ _ => True)
    (fun _ U o U' => ∃ v L, o = .returned v ∧ (fun v h L => Fr n0 L ∧ Q v h) v U'.heap L ∧ FrameEnd U o U' L rm.cells rm.slots)
section Rules
variable {κ : Cx} {l : Launch} {Z : State} {y : MethodName} {code : ByteArray} {maxL : Nat} {ret : Option FieldType} {rm : Room} {ws : List Jvm.Cond} {as a0 : Array Value} {h h0 h' : Heap} {n0 : Nat} {Q Q' : Option Value → Heap → Prop} {ce sl ce' sl' pc pc' pc2 : Nat} {ls ls' : Array Slot} {st st' rest : List Value}
theorem Con.of_go (hpl : plainFor y = true) (hef : ∀ m, entryFrame m as maxL = mkF m 0 ls []) (H : ∀ κ : Cx, Amb κ l Z y code maxL ret rm h0 n0 Q → Go κ h0 0 0 0 ls []) : Con l Z y code maxL ret rm ws as h0 n0 Q := by
  refine MetFree.of_bodySF hpl hisR ?_
  intro p e s m args below meth c s₁ Bd hml0 hP hK
  obtain ⟨rfl, hZ, hh⟩ := hP
  have X0 : Stand p l e rm s m args below meth c s₁ [] 0 0 := Stand.of_body Bd
  have e0 : s₁.heap = h0 := by rw [← hh, Bd.state]; rfl
  obtain ⟨s₂, o, hst, hr, he, hq⟩ := H (p, l, e, rm, s, m, args, below, meth, c, n0, Q) ⟨rfl, rfl, rfl, fun _ _ q => q, Bd.exec, hZ, findClass_of_methodNamed Bd.named, Bd.bytes, hml0, Bd.returns, BodyLoose.notSynchronized Bd, (name_of_methodNamed Bd.named Bd.method).1, hh⟩ s₁ [] X0 e0 (Fr.nil _)
  exact ⟨s₂, o, castTop (hef m) hst, hr, he, hq⟩
theorem Con.mono (M : Con l Z y code maxL ret rm ws as h0 n0 Q) (hq : ∀ v h, Q v h → Q' v h) : Con l Z y code maxL ret rm ws as h0 n0 Q' := by
  intro p e a1 a2 a3 s m args below a4 a5 a6 a7
  obtain ⟨n, o, b1, b2, b3, v, L, b4, b5, b6⟩ := M p e a1 a2 a3 s m args below a4 a5 a6 a7
  exact ⟨n, o, b1, b2, b3, v, L, b4, ⟨b5.1, hq _ _ b5.2⟩, b6⟩
theorem Go.pure (D : Amb κ l Z y code maxL ret rm h0 n0 Q)
    (f : ∀ (p : Program) (e : Env) (below : List Frame) (T t : State) (m : MethodId) (c : Code), p.tables.exec = Jvm.exec → c.code = code → At T m c below → Steps p.tables e below (T.setTop (mkF m pc' ls' st')) t → Steps p.tables e below (T.setTop (mkF m pc ls st)) t)
    (G : Go κ h ce sl pc' ls' st') : Go κ h ce sl pc ls st := by
  obtain ⟨p, l', e, R, s, m, args, below, meth, c, n0', Q'⟩ := κ
  obtain ⟨rfl, rfl, rfl, hQ, hx, hZ, hown, hby, hml, hret, hlk, hnm, hh⟩ := D
  intro T locs X eT N
  obtain ⟨s₂, o, h1, h2⟩ := G T locs X eT N
  exact ⟨s₂, o, f p e below T s₂ m c hx hby X.here h1, h2⟩
/-- a step that asks the walk's standing, the heap as it was -/
theorem Go.calm (D : Amb κ l Z y code maxL ret rm h0 n0 Q)
    (f : ∀ (p : Program) (e : Env) (s : State) (m : MethodId) (args : Array Value) (below : List Frame) (meth : Method) (c : Code) (T : State) (locs : List Loc), p.tables.exec = Jvm.exec → Z.Warmed39 s.vm → s.vm.findClass y.cls = some m.cls → c.code = code → c.maxLocals = maxL → s.heap = h0 → Stand p l e rm s m args below meth c T locs ce sl → T.heap = h → ∃ T', Stand p l e rm s m args below meth c T' locs ce sl ∧ T'.heap = h ∧ ∀ t, Steps p.tables e below (T'.setTop (mkF m pc' ls' st')) t → Steps p.tables e below (T.setTop (mkF m pc ls st)) t)
    (G : Go κ h ce sl pc' ls' st') : Go κ h ce sl pc ls st := by
  obtain ⟨p, l', e, R, s, m, args, below, meth, c, n0', Q'⟩ := κ
  obtain ⟨rfl, rfl, rfl, hQ, hx, hZ, hown, hby, hml, hret, hlk, hnm, hh⟩ := D
  intro T locs X eT N
  obtain ⟨T', X', eT', k⟩ := f p e s m args below meth c T locs hx hZ hown hby hml hh X eT
  obtain ⟨s₂, o, h1, h2⟩ := G T' locs X' eT' N
  exact ⟨s₂, o, k _ h1, h2⟩
/-- what a step may write -/
def Gw (h h' : Heap) (n0 : Nat) : Prop := ∃ ws : List Addr, Keep h h' ws ∧ ∀ x ∈ ws, n0 ≤ x
theorem Gw.ext (E : Ext h h') : Gw h h' n0 := ⟨[], (Keep.refl _ _).ext E, fun _ q => nomatch q⟩
theorem Gw.one {a : Addr} (K : Keep h h' [a]) (q : n0 ≤ a) : Gw h h' n0 := ⟨[a], K, fun x z => by cases List.mem_singleton.mp z; exact q⟩
/-- a step that turns the heap -/
theorem Go.turn (D : Amb κ l Z y code maxL ret rm h0 n0 Q) {P : Heap → Prop}
    (f : ∀ (p : Program) (e : Env) (s : State) (m : MethodId) (args : Array Value) (below : List Frame) (meth : Method) (c : Code) (T : State) (locs : List Loc), p.tables.exec = Jvm.exec → Z.Warmed39 s.vm → s.vm.findClass y.cls = some m.cls → c.code = code → c.maxLocals = maxL → meth.name = y.name → Stand p l e rm s m args below meth c T locs ce sl → T.heap = h → Fr n0 locs → ∃ T' locs' h', Stand p l e rm s m args below meth c T' locs' ce' sl' ∧ T'.heap = h' ∧ Fr n0 locs' ∧ Gw h h' n0 ∧ P h' ∧ ∀ t, Steps p.tables e below (T'.setTop (mkF m pc' ls' st')) t → Steps p.tables e below (T.setTop (mkF m pc ls st)) t)
    (G : ∀ h', P h' → Go κ h' ce' sl' pc' ls' st') : Go κ h ce sl pc ls st := by
  obtain ⟨p, l', e, R, s, m, args, below, meth, c, n0', Q'⟩ := κ
  obtain ⟨rfl, rfl, rfl, hQ, hx, hZ, hown, hby, hml, hret, hlk, hnm, hh⟩ := D
  intro T locs X eT N
  obtain ⟨T', locs', h', X', eT', N', -, hP, k⟩ := f p e s m args below meth c T locs hx hZ hown hby hml hnm X eT N
  obtain ⟨s₂, o, h1, h2⟩ := G h' hP T' locs' X' eT' N'
  exact ⟨s₂, o, k _ h1, h2⟩
theorem sd_mono {p : Program} {e : Env} {R : Room} {s : State} {m : MethodId} {args : Array Value} {below : List Frame} {meth : Method} {c : Code} {T : State} {locs : List Loc} (X : Stand p l e R s m args below meth c T locs ce sl) (h1 : ce ≤ ce') (h2 : sl ≤ sl') : Stand p l e R s m args below meth c T locs ce' sl' :=
  { X with same := X.same.mono h1 h2 }
theorem Go.up (h1 : ce ≤ ce') (h2 : sl ≤ sl') (G : Go κ h ce' sl' pc ls st) : Go κ h ce sl pc ls st := by
  obtain ⟨p, l', e, R, s, m, args, below, meth, c, n0', Q'⟩ := κ
  intro T locs X eT N
  exact G T locs (sd_mono X h1 h2) eT N
/-! returns -/
theorem Go.ret1 (D : Amb κ l Z y code maxL ret rm h0 n0 Q) {i : Instr} {t : FieldType} {w : Value} (hret' : ret = some t) (hn : narrow t w = w)
    (hi : (i = .ireturn ∧ (t = .int ∨ t = .boolean ∨ t = .byte ∨ t = .char ∨ t = .short) ∧ ∃ z, w = .int z) ∨ (i = .lreturn ∧ t = .long ∧ ∃ z, w = .long z) ∨ (i = .dreturn ∧ t = .double ∧ ∃ z, w = .double z) ∨ (i = .freturn ∧ t = .float ∧ ∃ z, w = .float z) ∨ (i = .areturn ∧ t.isReference = true ∧ w.isRef = true))
    (hd : decode code pc = .ok (i, 1)) (hc : ce ≤ rm.cells) (hs : sl ≤ rm.slots) (q : Q (some w) h) : Go κ h ce sl pc ls (w :: rest) := by
  obtain ⟨p, l', e, R, s, m, args, below, meth, c, n0', Q'⟩ := κ
  obtain ⟨rfl, rfl, rfl, hQ, hx, hZ, hown, hby, hml, hret, hlk, hnm, hh⟩ := D
  intro T locs X eT N
  have hr2 : meth.sig.returnType = some t := hret.trans hret'
  obtain ⟨fs, hr, hrun, hended, hW, hsame⟩ := X.leave (v := some w) (fun h => by rw [hr2] at h; cases h) hlk
  refine ⟨_, _, retOut X hx hr2 hn hi (hb hby hd) hr, hrun, hended, _, _, rfl, ⟨N, hQ _ _ ?_⟩, ⟨_, rfl⟩, hW, hsame.mono hc hs⟩
  show Q (some w) T.heap
  rw [eT]; exact q
theorem Go.iret (D : Amb κ l Z y code maxL ret rm h0 n0 Q) {x : Int32} (hret' : ret = some .int) (hd : decode code pc = .ok (.ireturn, 1)) (hc : ce ≤ rm.cells) (hs : sl ≤ rm.slots) (q : Q (some (.int x)) h) : Go κ h ce sl pc ls (.int x :: rest) :=
  Go.ret1 D hret' rfl (Or.inl ⟨rfl, Or.inl rfl, _, rfl⟩) hd hc hs q
theorem Go.zret (D : Amb κ l Z y code maxL ret rm h0 n0 Q) {x : Int32} (hret' : ret = some .boolean) (hx : narrow .boolean (.int x) = .int x) (hd : decode code pc = .ok (.ireturn, 1)) (hc : ce ≤ rm.cells) (hs : sl ≤ rm.slots) (q : Q (some (.int x)) h) : Go κ h ce sl pc ls (.int x :: rest) :=
  Go.ret1 D hret' hx (Or.inl ⟨rfl, Or.inr (Or.inl rfl), _, rfl⟩) hd hc hs q
theorem Go.cret (D : Amb κ l Z y code maxL ret rm h0 n0 Q) {x : Int32} (hret' : ret = some .char) (hx : narrow .char (.int x) = .int x) (hd : decode code pc = .ok (.ireturn, 1)) (hc : ce ≤ rm.cells) (hs : sl ≤ rm.slots) (q : Q (some (.int x)) h) : Go κ h ce sl pc ls (.int x :: rest) :=
  Go.ret1 D hret' hx (Or.inl ⟨rfl, Or.inr (Or.inr (Or.inr (Or.inl rfl))), _, rfl⟩) hd hc hs q
theorem Go.bret (D : Amb κ l Z y code maxL ret rm h0 n0 Q) {x : Int32} (hret' : ret = some .byte) (hx : narrow .byte (.int x) = .int x) (hd : decode code pc = .ok (.ireturn, 1)) (hc : ce ≤ rm.cells) (hs : sl ≤ rm.slots) (q : Q (some (.int x)) h) : Go κ h ce sl pc ls (.int x :: rest) :=
  Go.ret1 D hret' hx (Or.inl ⟨rfl, Or.inr (Or.inr (Or.inl rfl)), _, rfl⟩) hd hc hs q
theorem Go.aret (D : Amb κ l Z y code maxL ret rm h0 n0 Q) {t : FieldType} {a : Addr} (hret' : ret = some t) (ht : t.isReference = true) (hn : narrow t (.ref a) = .ref a) (hd : decode code pc = .ok (.areturn, 1)) (hc : ce ≤ rm.cells) (hs : sl ≤ rm.slots) (q : Q (some (.ref a)) h) : Go κ h ce sl pc ls (.ref a :: rest) :=
  Go.ret1 D hret' hn (Or.inr (Or.inr (Or.inr (Or.inr ⟨rfl, ht, rfl⟩)))) hd hc hs q
theorem Go.lret (D : Amb κ l Z y code maxL ret rm h0 n0 Q) {x : Int64} (hret' : ret = some .long) (hd : decode code pc = .ok (.lreturn, 1)) (hc : ce ≤ rm.cells) (hs : sl ≤ rm.slots) (q : Q (some (.long x)) h) : Go κ h ce sl pc ls (.long x :: rest) :=
  Go.ret1 D hret' rfl (Or.inr (Or.inl ⟨rfl, rfl, _, rfl⟩)) hd hc hs q
theorem Go.vret (D : Amb κ l Z y code maxL ret rm h0 n0 Q) (hret' : ret = none) (hd : decode code pc = .ok (.return_, 1)) (hc : ce ≤ rm.cells) (hs : sl ≤ rm.slots) (q : Q none h) : Go κ h ce sl pc ls [] := by
  obtain ⟨p, l', e, R, s, m, args, below, meth, c, n0', Q'⟩ := κ
  obtain ⟨rfl, rfl, rfl, hQ, hx, hZ, hown, hby, hml, hret, hlk, hnm, hh⟩ := D
  intro T locs X eT N
  have hr2 : meth.sig.returnType = none := hret.trans hret'
  obtain ⟨fs, hr, hrun, hended, hW, hsame⟩ := X.leave (v := none) (fun _ => rfl) hlk
  refine ⟨_, _, X.returnOut hx hr2 (hb hby hd) hr, hrun, hended, _, _, rfl, ⟨N, hQ _ _ ?_⟩, ⟨_, rfl⟩, hW, hsame.mono hc hs⟩
  show Q none T.heap
  rw [eT]; exact q
/-! branches -/
def cy : ClassFile.Cond → Int32 → Int32 → Prop
  | .eq, x, y => x = y
  | .ne, x, y => ¬ x = y
  | .lt, x, y => x < y
  | .ge, x, y => ¬ x < y
  | .gt, x, y => y < x
  | .le, x, y => ¬ y < x
def cn : ClassFile.Cond → Int32 → Int32 → Prop
  | .eq, x, y => ¬ x = y
  | .ne, x, y => x = y
  | .lt, x, y => ¬ x < y
  | .ge, x, y => x < y
  | .gt, x, y => ¬ y < x
  | .le, x, y => y < x
theorem icmp_dec (cd : ClassFile.Cond) (x y : Int32) : (if_icmp.holds cd x y = true ∧ cy cd x y) ∨ (if_icmp.holds cd x y = false ∧ cn cd x y) := by
  cases cd <;> simp only [if_icmp.holds, cy, cn, beq_iff_eq, bne_iff_ne, ne_eq, decide_eq_true_eq, decide_eq_false_iff_not, beq_eq_false_iff_ne, bne_eq_false_iff_eq, Int32.not_lt, gt_iff_lt, ge_iff_le, Int32.not_le]
  · by_cases q : x = y <;> simp [q]
  · by_cases q : x = y <;> simp [q]
  · rcases Int32.lt_or_le x y with q | q <;> simp [q]
  · rcases Int32.lt_or_le x y with q | q <;> simp [q]
  · rcases Int32.lt_or_le y x with q | q <;> simp [q]
  · rcases Int32.lt_or_le y x with q | q <;> simp [q]
theorem ifc_dec (cd : ClassFile.Cond) (x : Int32) : (ifCond.holds cd x = true ∧ cy cd x 0) ∨ (ifCond.holds cd x = false ∧ cn cd x 0) := by
  cases cd <;> simp only [ifCond.holds, cy, cn, beq_iff_eq, bne_iff_ne, ne_eq, decide_eq_true_eq, decide_eq_false_iff_not, beq_eq_false_iff_ne, bne_eq_false_iff_eq, Int32.not_lt, gt_iff_lt, ge_iff_le, Int32.not_le]
  · by_cases q : x = 0 <;> simp [q]
  · by_cases q : x = 0 <;> simp [q]
  · rcases Int32.lt_or_le x 0 with q | q <;> simp [q]
  · rcases Int32.lt_or_le x 0 with q | q <;> simp [q]
  · rcases Int32.lt_or_le 0 x with q | q <;> simp [q]
  · rcases Int32.lt_or_le 0 x with q | q <;> simp [q]
theorem Go.ifc (D : Amb κ l Z y code maxL ret rm h0 n0 Q) {cd : ClassFile.Cond} {o : Int} {x : Int32} (hd : decode code pc = .ok (.ifCond cd o, 3)) (ho : 0 ≤ (pc : Int) + o) (hp : ((pc : Int) + o).toNat = pc') (hp2 : pc + 3 = pc2)
    (Gt : cy cd x 0 → Go κ h ce sl pc' ls rest) (Gf : cn cd x 0 → Go κ h ce sl pc2 ls rest) : Go κ h ce sl pc ls (.int x :: rest) := by
  subst hp2
  rcases ifc_dec cd x with ⟨q1, q2⟩ | ⟨q1, q2⟩
  · exact Go.pure D (fun p e below T t m c hx hby hT k => XS.ifYes hT hx rfl rfl (hb hby hd) rfl q1 ho hp k) (Gt q2)
  · exact Go.pure D (fun p e below T t m c hx hby hT k => XS.ifNo hT hx rfl (hb hby hd) rfl q1 k) (Gf q2)
theorem Go.icmp (D : Amb κ l Z y code maxL ret rm h0 n0 Q) {cd : ClassFile.Cond} {o : Int} {x z : Int32} (hd : decode code pc = .ok (.if_icmp cd o, 3)) (ho : 0 ≤ (pc : Int) + o) (hp : ((pc : Int) + o).toNat = pc') (hp2 : pc + 3 = pc2)
    (Gt : cy cd x z → Go κ h ce sl pc' ls rest) (Gf : cn cd x z → Go κ h ce sl pc2 ls rest) : Go κ h ce sl pc ls (.int z :: .int x :: rest) := by
  subst hp2
  rcases icmp_dec cd x z with ⟨q1, q2⟩ | ⟨q1, q2⟩
  · exact Go.pure D (fun p e below T t m c hx hby hT k => XS.icmpYes hT hx rfl rfl (hb hby hd) rfl q1 ho hp k) (Gt q2)
  · exact Go.pure D (fun p e below T t m c hx hby hT k => XS.icmpNo hT hx rfl (hb hby hd) rfl q1 k) (Gf q2)
theorem Go.iloadN (D : Amb κ l Z y code maxL ret rm h0 n0 Q) {k : Fin 4} {v : Int32} (hd : decode code pc = .ok (.iload_n k, 1)) (hp : pc + 1 = pc') (hl : ls[k.val]? = some (.val (.int v))) (G : Go κ h ce sl pc' ls (.int v :: st)) : Go κ h ce sl pc ls (st) := by
  subst hp
  exact Go.pure D (fun p e below T t m c hx hby hT k' => XS.iloadN hT hx rfl (hb hby hd) hl k') G
theorem Go.iload (D : Amb κ l Z y code maxL ret rm h0 n0 Q) {k : Nat} {v : Int32} (hd : decode code pc = .ok (.iload k, 2)) (hp : pc + 2 = pc') (hl : ls[k]? = some (.val (.int v))) (G : Go κ h ce sl pc' ls (.int v :: st)) : Go κ h ce sl pc ls (st) := by
  subst hp
  exact Go.pure D (fun p e below T t m c hx hby hT k' => XS.iload hT hx rfl (hb hby hd) hl k') G
theorem Go.aloadN (D : Amb κ l Z y code maxL ret rm h0 n0 Q) {k : Fin 4} {v : Value} (hd : decode code pc = .ok (.aload_n k, 1)) (hp : pc + 1 = pc') (hl : ls[k.val]? = some (.val v)) (hv : v.isRef = true) (G : Go κ h ce sl pc' ls (v :: st)) : Go κ h ce sl pc ls (st) := by
  subst hp
  exact Go.pure D (fun p e below T t m c hx hby hT k' => XS.aloadN hT hx rfl (hb hby hd) hl hv k') G
theorem Go.aload (D : Amb κ l Z y code maxL ret rm h0 n0 Q) {k : Nat} {v : Value} (hd : decode code pc = .ok (.aload k, 2)) (hp : pc + 2 = pc') (hl : ls[k]? = some (.val v)) (hv : v.isRef = true) (G : Go κ h ce sl pc' ls (v :: st)) : Go κ h ce sl pc ls (st) := by
  subst hp
  exact Go.pure D (fun p e below T t m c hx hby hT k' => XS.aload hT hx rfl (hb hby hd) hl hv k') G
theorem Go.lloadN (D : Amb κ l Z y code maxL ret rm h0 n0 Q) {k : Fin 4} {v : Int64} (hd : decode code pc = .ok (.lload_n k, 1)) (hp : pc + 1 = pc') (hl : ls[k.val]? = some (.val (.long v))) (G : Go κ h ce sl pc' ls (.long v :: st)) : Go κ h ce sl pc ls (st) := by
  subst hp
  exact Go.pure D (fun p e below T t m c hx hby hT k' => XS.lloadN hT hx rfl (hb hby hd) hl k') G
theorem Go.lload (D : Amb κ l Z y code maxL ret rm h0 n0 Q) {k : Nat} {v : Int64} (hd : decode code pc = .ok (.lload k, 2)) (hp : pc + 2 = pc') (hl : ls[k]? = some (.val (.long v))) (G : Go κ h ce sl pc' ls (.long v :: st)) : Go κ h ce sl pc ls (st) := by
  subst hp
  exact Go.pure D (fun p e below T t m c hx hby hT k' => XS.lload hT hx rfl (hb hby hd) hl k') G
theorem Go.iconst (D : Amb κ l Z y code maxL ret rm h0 n0 Q) {i : Int} {v : Int32} (hd : decode code pc = .ok (.iconst i, 1)) (hp : pc + 1 = pc') (hv : Int32.ofInt i = v) (G : Go κ h ce sl pc' ls (.int v :: st)) : Go κ h ce sl pc ls (st) := by
  subst hp hv
  exact Go.pure D (fun p e below T t m c hx hby hT k' => XS.iconst hT hx rfl (hb hby hd) k') G
theorem Go.bipush (D : Amb κ l Z y code maxL ret rm h0 n0 Q) {i : Int} {v : Int32} (hd : decode code pc = .ok (.bipush i, 2)) (hp : pc + 2 = pc') (hv : (Int8.ofInt i).toInt32 = v) (G : Go κ h ce sl pc' ls (.int v :: st)) : Go κ h ce sl pc ls (st) := by
  subst hp hv
  exact Go.pure D (fun p e below T t m c hx hby hT k' => XS.bipush hT hx rfl (hb hby hd) k') G
theorem Go.sipush (D : Amb κ l Z y code maxL ret rm h0 n0 Q) {i : Int} {v : Int32} (hd : decode code pc = .ok (.sipush i, 3)) (hp : pc + 3 = pc') (hv : (Int16.ofInt i).toInt32 = v) (G : Go κ h ce sl pc' ls (.int v :: st)) : Go κ h ce sl pc ls (st) := by
  subst hp hv
  exact Go.pure D (fun p e below T t m c hx hby hT k' => XS.sipush hT hx rfl (hb hby hd) k') G
theorem Go.lconst (D : Amb κ l Z y code maxL ret rm h0 n0 Q) {k : Fin 2} {v : Int64} (hd : decode code pc = .ok (.lconst k, 1)) (hp : pc + 1 = pc') (hv : Int64.ofNat k = v) (G : Go κ h ce sl pc' ls (.long v :: st)) : Go κ h ce sl pc ls (st) := by
  subst hp hv
  exact Go.pure D (fun p e below T t m c hx hby hT k' => XS.lconst hT hx rfl (hb hby hd) k') G
theorem Go.aconstNull (D : Amb κ l Z y code maxL ret rm h0 n0 Q)  (hd : decode code pc = .ok (.aconst_null, 1)) (hp : pc + 1 = pc')  (G : Go κ h ce sl pc' ls (.null :: st)) : Go κ h ce sl pc ls (st) := by
  subst hp
  exact Go.pure D (fun p e below T t m c hx hby hT k' => XS.aconstNull hT hx rfl (hb hby hd) k') G
theorem Go.iadd (D : Amb κ l Z y code maxL ret rm h0 n0 Q) {x z : Int32} (hd : decode code pc = .ok (.iadd, 1)) (hp : pc + 1 = pc')  (G : Go κ h ce sl pc' ls (.int (x + z) :: rest)) : Go κ h ce sl pc ls (.int z :: .int x :: rest) := by
  subst hp
  exact Go.pure D (fun p e below T t m c hx hby hT k' => XS.iadd hT hx rfl (hb hby hd) rfl k') G
theorem Go.isub (D : Amb κ l Z y code maxL ret rm h0 n0 Q) {x z : Int32} (hd : decode code pc = .ok (.isub, 1)) (hp : pc + 1 = pc')  (G : Go κ h ce sl pc' ls (.int (x - z) :: rest)) : Go κ h ce sl pc ls (.int z :: .int x :: rest) := by
  subst hp
  exact Go.pure D (fun p e below T t m c hx hby hT k' => XS.isub hT hx rfl (hb hby hd) rfl k') G
theorem Go.iand (D : Amb κ l Z y code maxL ret rm h0 n0 Q) {x z : Int32} (hd : decode code pc = .ok (.iand, 1)) (hp : pc + 1 = pc')  (G : Go κ h ce sl pc' ls (.int (x &&& z) :: rest)) : Go κ h ce sl pc ls (.int z :: .int x :: rest) := by
  subst hp
  exact Go.pure D (fun p e below T t m c hx hby hT k' => XS.iand hT hx rfl (hb hby hd) rfl k') G
theorem Go.imul (D : Amb κ l Z y code maxL ret rm h0 n0 Q) {x z : Int32} (hd : decode code pc = .ok (.imul, 1)) (hp : pc + 1 = pc')  (G : Go κ h ce sl pc' ls (.int (x * z) :: rest)) : Go κ h ce sl pc ls (.int z :: .int x :: rest) := by
  subst hp
  exact Go.pure D (fun p e below T t m c hx hby hT k' => XS.imul hT hx rfl (hb hby hd) rfl k') G
theorem Go.ixor (D : Amb κ l Z y code maxL ret rm h0 n0 Q) {x z : Int32} (hd : decode code pc = .ok (.ixor, 1)) (hp : pc + 1 = pc')  (G : Go κ h ce sl pc' ls (.int (x ^^^ z) :: rest)) : Go κ h ce sl pc ls (.int z :: .int x :: rest) := by
  subst hp
  exact Go.pure D (fun p e below T t m c hx hby hT k' => XS.ixor hT hx rfl (hb hby hd) rfl k') G
theorem Go.ior (D : Amb κ l Z y code maxL ret rm h0 n0 Q) {x z : Int32} (hd : decode code pc = .ok (.ior, 1)) (hp : pc + 1 = pc')  (G : Go κ h ce sl pc' ls (.int (x ||| z) :: rest)) : Go κ h ce sl pc ls (.int z :: .int x :: rest) := by
  subst hp
  exact Go.pure D (fun p e below T t m c hx hby hT k' => XS.ior hT hx rfl (hb hby hd) rfl k') G
theorem Go.ishl (D : Amb κ l Z y code maxL ret rm h0 n0 Q) {x z : Int32} (hd : decode code pc = .ok (.ishl, 1)) (hp : pc + 1 = pc')  (G : Go κ h ce sl pc' ls (.int (x <<< (z &&& 31)) :: rest)) : Go κ h ce sl pc ls (.int z :: .int x :: rest) := by
  subst hp
  exact Go.pure D (fun p e below T t m c hx hby hT k' => XS.ishl hT hx rfl (hb hby hd) rfl k') G
theorem Go.ishr (D : Amb κ l Z y code maxL ret rm h0 n0 Q) {x z : Int32} (hd : decode code pc = .ok (.ishr, 1)) (hp : pc + 1 = pc')  (G : Go κ h ce sl pc' ls (.int (x >>> (z &&& 31)) :: rest)) : Go κ h ce sl pc ls (.int z :: .int x :: rest) := by
  subst hp
  exact Go.pure D (fun p e below T t m c hx hby hT k' => XS.ishr hT hx rfl (hb hby hd) rfl k') G
theorem Go.iushr (D : Amb κ l Z y code maxL ret rm h0 n0 Q) {x z : Int32} (hd : decode code pc = .ok (.iushr, 1)) (hp : pc + 1 = pc')  (G : Go κ h ce sl pc' ls (.int (ushr x z) :: rest)) : Go κ h ce sl pc ls (.int z :: .int x :: rest) := by
  subst hp
  exact Go.pure D (fun p e below T t m c hx hby hT k' => XS.iushr hT hx rfl (hb hby hd) rfl k') G
theorem Go.ladd (D : Amb κ l Z y code maxL ret rm h0 n0 Q) {x z : Int64} (hd : decode code pc = .ok (.ladd, 1)) (hp : pc + 1 = pc')  (G : Go κ h ce sl pc' ls (.long (x + z) :: rest)) : Go κ h ce sl pc ls (.long z :: .long x :: rest) := by
  subst hp
  exact Go.pure D (fun p e below T t m c hx hby hT k' => XS.ladd hT hx rfl (hb hby hd) rfl k') G
theorem Go.lsub (D : Amb κ l Z y code maxL ret rm h0 n0 Q) {x z : Int64} (hd : decode code pc = .ok (.lsub, 1)) (hp : pc + 1 = pc')  (G : Go κ h ce sl pc' ls (.long (x - z) :: rest)) : Go κ h ce sl pc ls (.long z :: .long x :: rest) := by
  subst hp
  exact Go.pure D (fun p e below T t m c hx hby hT k' => XS.lsub hT hx rfl (hb hby hd) rfl k') G
theorem Go.lmul (D : Amb κ l Z y code maxL ret rm h0 n0 Q) {x z : Int64} (hd : decode code pc = .ok (.lmul, 1)) (hp : pc + 1 = pc')  (G : Go κ h ce sl pc' ls (.long (x * z) :: rest)) : Go κ h ce sl pc ls (.long z :: .long x :: rest) := by
  subst hp
  exact Go.pure D (fun p e below T t m c hx hby hT k' => XS.lmul hT hx rfl (hb hby hd) rfl k') G
theorem Go.land (D : Amb κ l Z y code maxL ret rm h0 n0 Q) {x z : Int64} (hd : decode code pc = .ok (.land, 1)) (hp : pc + 1 = pc')  (G : Go κ h ce sl pc' ls (.long (x &&& z) :: rest)) : Go κ h ce sl pc ls (.long z :: .long x :: rest) := by
  subst hp
  exact Go.pure D (fun p e below T t m c hx hby hT k' => XS.land hT hx rfl (hb hby hd) rfl k') G
theorem Go.lor (D : Amb κ l Z y code maxL ret rm h0 n0 Q) {x z : Int64} (hd : decode code pc = .ok (.lor, 1)) (hp : pc + 1 = pc')  (G : Go κ h ce sl pc' ls (.long (x ||| z) :: rest)) : Go κ h ce sl pc ls (.long z :: .long x :: rest) := by
  subst hp
  exact Go.pure D (fun p e below T t m c hx hby hT k' => XS.lor hT hx rfl (hb hby hd) rfl k') G
theorem Go.lxor (D : Amb κ l Z y code maxL ret rm h0 n0 Q) {x z : Int64} (hd : decode code pc = .ok (.lxor, 1)) (hp : pc + 1 = pc')  (G : Go κ h ce sl pc' ls (.long (x ^^^ z) :: rest)) : Go κ h ce sl pc ls (.long z :: .long x :: rest) := by
  subst hp
  exact Go.pure D (fun p e below T t m c hx hby hT k' => XS.lxor hT hx rfl (hb hby hd) rfl k') G
theorem Go.lshl (D : Amb κ l Z y code maxL ret rm h0 n0 Q) {x : Int64} {z : Int32} (hd : decode code pc = .ok (.lshl, 1)) (hp : pc + 1 = pc')  (G : Go κ h ce sl pc' ls (.long (x <<< (z &&& 63).toInt64) :: rest)) : Go κ h ce sl pc ls (.int z :: .long x :: rest) := by
  subst hp
  exact Go.pure D (fun p e below T t m c hx hby hT k' => XS.lshl hT hx rfl (hb hby hd) rfl k') G
theorem Go.lshr (D : Amb κ l Z y code maxL ret rm h0 n0 Q) {x : Int64} {z : Int32} (hd : decode code pc = .ok (.lshr, 1)) (hp : pc + 1 = pc')  (G : Go κ h ce sl pc' ls (.long (x >>> (z &&& 63).toInt64) :: rest)) : Go κ h ce sl pc ls (.int z :: .long x :: rest) := by
  subst hp
  exact Go.pure D (fun p e below T t m c hx hby hT k' => XS.lshr hT hx rfl (hb hby hd) rfl k') G
theorem Go.lushr (D : Amb κ l Z y code maxL ret rm h0 n0 Q) {x : Int64} {z : Int32} (hd : decode code pc = .ok (.lushr, 1)) (hp : pc + 1 = pc')  (G : Go κ h ce sl pc' ls (.long (ushrL x z) :: rest)) : Go κ h ce sl pc ls (.int z :: .long x :: rest) := by
  subst hp
  exact Go.pure D (fun p e below T t m c hx hby hT k' => XS.lushr hT hx rfl (hb hby hd) rfl k') G
theorem Go.ineg (D : Amb κ l Z y code maxL ret rm h0 n0 Q) {x : Int32} (hd : decode code pc = .ok (.ineg, 1)) (hp : pc + 1 = pc')  (G : Go κ h ce sl pc' ls (.int (-x) :: rest)) : Go κ h ce sl pc ls (.int x :: rest) := by
  subst hp
  exact Go.pure D (fun p e below T t m c hx hby hT k' => XS.ineg hT hx rfl (hb hby hd) rfl k') G
theorem Go.lneg (D : Amb κ l Z y code maxL ret rm h0 n0 Q) {x : Int64} (hd : decode code pc = .ok (.lneg, 1)) (hp : pc + 1 = pc')  (G : Go κ h ce sl pc' ls (.long (-x) :: rest)) : Go κ h ce sl pc ls (.long x :: rest) := by
  subst hp
  exact Go.pure D (fun p e below T t m c hx hby hT k' => XS.lneg hT hx rfl (hb hby hd) rfl k') G
theorem Go.i2l (D : Amb κ l Z y code maxL ret rm h0 n0 Q) {x : Int32} (hd : decode code pc = .ok (.i2l, 1)) (hp : pc + 1 = pc')  (G : Go κ h ce sl pc' ls (.long (x.toInt64) :: rest)) : Go κ h ce sl pc ls (.int x :: rest) := by
  subst hp
  exact Go.pure D (fun p e below T t m c hx hby hT k' => XS.i2l hT hx rfl (hb hby hd) rfl k') G
theorem Go.l2i (D : Amb κ l Z y code maxL ret rm h0 n0 Q) {x : Int64} (hd : decode code pc = .ok (.l2i, 1)) (hp : pc + 1 = pc')  (G : Go κ h ce sl pc' ls (.int (x.toInt32) :: rest)) : Go κ h ce sl pc ls (.long x :: rest) := by
  subst hp
  exact Go.pure D (fun p e below T t m c hx hby hT k' => XS.l2i hT hx rfl (hb hby hd) rfl k') G
theorem Go.i2b (D : Amb κ l Z y code maxL ret rm h0 n0 Q) {x : Int32} (hd : decode code pc = .ok (.i2b, 1)) (hp : pc + 1 = pc')  (G : Go κ h ce sl pc' ls (.int (x.toInt8.toInt32) :: rest)) : Go κ h ce sl pc ls (.int x :: rest) := by
  subst hp
  exact Go.pure D (fun p e below T t m c hx hby hT k' => XS.i2b hT hx rfl (hb hby hd) rfl k') G
theorem Go.i2c (D : Amb κ l Z y code maxL ret rm h0 n0 Q) {x : Int32} (hd : decode code pc = .ok (.i2c, 1)) (hp : pc + 1 = pc')  (G : Go κ h ce sl pc' ls (.int (x.toUInt32.toUInt16.toUInt32.toInt32) :: rest)) : Go κ h ce sl pc ls (.int x :: rest) := by
  subst hp
  exact Go.pure D (fun p e below T t m c hx hby hT k' => XS.i2c hT hx rfl (hb hby hd) rfl k') G
theorem Go.lcmp (D : Amb κ l Z y code maxL ret rm h0 n0 Q) {x z : Int64} (hd : decode code pc = .ok (.lcmp, 1)) (hp : pc + 1 = pc')  (G : Go κ h ce sl pc' ls (.int (cmpL x z) :: rest)) : Go κ h ce sl pc ls (.long z :: .long x :: rest) := by
  subst hp
  exact Go.pure D (fun p e below T t m c hx hby hT k' => XS.lcmp hT hx rfl (hb hby hd) rfl k') G
theorem Go.dup (D : Amb κ l Z y code maxL ret rm h0 n0 Q) {x : Value} (hd : decode code pc = .ok (.dup, 1)) (hp : pc + 1 = pc') (hc : x.category = 1) (G : Go κ h ce sl pc' ls (x :: x :: rest)) : Go κ h ce sl pc ls (x :: rest) := by
  subst hp
  exact Go.pure D (fun p e below T t m c hx hby hT k' => XS.dup hT hx rfl (hb hby hd) rfl hc k') G
theorem Go.pop (D : Amb κ l Z y code maxL ret rm h0 n0 Q) {x : Value} (hd : decode code pc = .ok (.pop, 1)) (hp : pc + 1 = pc') (hc : x.category = 1) (G : Go κ h ce sl pc' ls (rest)) : Go κ h ce sl pc ls (x :: rest) := by
  subst hp
  exact Go.pure D (fun p e below T t m c hx hby hT k' => XS.pop hT hx rfl (hb hby hd) rfl hc k') G
theorem Go.dupX1 (D : Amb κ l Z y code maxL ret rm h0 n0 Q) {x z : Value} (hd : decode code pc = .ok (.dup_x1, 1)) (hp : pc + 1 = pc') (hc : x.category = 1) (hc' : z.category = 1) (G : Go κ h ce sl pc' ls (x :: z :: x :: rest)) : Go κ h ce sl pc ls (x :: z :: rest) := by
  subst hp
  exact Go.pure D (fun p e below T t m c hx hby hT k' => XS.dupX1 hT hx rfl (hb hby hd) rfl hc hc' k') G
theorem Go.dup2 (D : Amb κ l Z y code maxL ret rm h0 n0 Q) {x z : Value} (hd : decode code pc = .ok (.dup2, 1)) (hp : pc + 1 = pc') (hc : x.category = 1) (hc' : z.category = 1) (G : Go κ h ce sl pc' ls (x :: z :: x :: z :: rest)) : Go κ h ce sl pc ls (x :: z :: rest) := by
  subst hp
  exact Go.pure D (fun p e below T t m c hx hby hT k' => XT.dup2 hT hx rfl (hb hby hd) rfl hc hc' k') G
theorem Go.dup2L (D : Amb κ l Z y code maxL ret rm h0 n0 Q) {x : Int64} (hd : decode code pc = .ok (.dup2, 1)) (hp : pc + 1 = pc')  (G : Go κ h ce sl pc' ls (.long x :: .long x :: rest)) : Go κ h ce sl pc ls (.long x :: rest) := by
  subst hp
  exact Go.pure D (fun p e below T t m c hx hby hT k' => XT.dup2L hT hx rfl (hb hby hd) rfl k') G
theorem Go.istoreN (D : Amb κ l Z y code maxL ret rm h0 n0 Q) {k : Fin 4} {x : Int32} (hd : decode code pc = .ok (.istore_n k, 1)) (hp : pc + 1 = pc') (hl : storeLocals ls k.val (.int x) = some ls') (G : Go κ h ce sl pc' ls' rest) : Go κ h ce sl pc ls (.int x :: rest) := by
  subst hp
  exact Go.pure D (fun p e below T t m c hx hby hT k' => XS.istoreN hT hx rfl (hb hby hd) rfl hl k') G
theorem Go.istore (D : Amb κ l Z y code maxL ret rm h0 n0 Q) {k : Nat} {x : Int32} (hd : decode code pc = .ok (.istore k, 2)) (hp : pc + 2 = pc') (hl : storeLocals ls k (.int x) = some ls') (G : Go κ h ce sl pc' ls' rest) : Go κ h ce sl pc ls (.int x :: rest) := by
  subst hp
  exact Go.pure D (fun p e below T t m c hx hby hT k' => XS.istore hT hx rfl (hb hby hd) rfl hl k') G
theorem Go.astoreN (D : Amb κ l Z y code maxL ret rm h0 n0 Q) {k : Fin 4} {x : Value} (hd : decode code pc = .ok (.astore_n k, 1)) (hp : pc + 1 = pc') (hv : x.isRef = true) (hl : storeLocals ls k.val x = some ls') (G : Go κ h ce sl pc' ls' rest) : Go κ h ce sl pc ls (x :: rest) := by
  subst hp
  exact Go.pure D (fun p e below T t m c hx hby hT k' => XS.astoreN hT hx rfl (hb hby hd) rfl hv hl k') G
theorem Go.astore (D : Amb κ l Z y code maxL ret rm h0 n0 Q) {k : Nat} {x : Value} (hd : decode code pc = .ok (.astore k, 2)) (hp : pc + 2 = pc') (hv : x.isRef = true) (hl : storeLocals ls k x = some ls') (G : Go κ h ce sl pc' ls' rest) : Go κ h ce sl pc ls (x :: rest) := by
  subst hp
  exact Go.pure D (fun p e below T t m c hx hby hT k' => XS.astore hT hx rfl (hb hby hd) rfl hv hl k') G
theorem Go.lstoreN (D : Amb κ l Z y code maxL ret rm h0 n0 Q) {k : Fin 4} {x : Int64} (hd : decode code pc = .ok (.lstore_n k, 1)) (hp : pc + 1 = pc') (hl : storeLocals ls k.val (.long x) = some ls') (G : Go κ h ce sl pc' ls' rest) : Go κ h ce sl pc ls (.long x :: rest) := by
  subst hp
  exact Go.pure D (fun p e below T t m c hx hby hT k' => XS.lstoreN hT hx rfl (hb hby hd) rfl hl k') G
theorem Go.lstore (D : Amb κ l Z y code maxL ret rm h0 n0 Q) {k : Nat} {x : Int64} (hd : decode code pc = .ok (.lstore k, 2)) (hp : pc + 2 = pc') (hl : storeLocals ls k (.long x) = some ls') (G : Go κ h ce sl pc' ls' rest) : Go κ h ce sl pc ls (.long x :: rest) := by
  subst hp
  exact Go.pure D (fun p e below T t m c hx hby hT k' => XS.lstore hT hx rfl (hb hby hd) rfl hl k') G
theorem Go.iinc (D : Amb κ l Z y code maxL ret rm h0 n0 Q) {k : Nat} {cst : Int} {x d : Int32} (hd : decode code pc = .ok (.iinc k cst, 3)) (hp : pc + 3 = pc') (hl : ls[k]? = some (.val (.int x))) (hv : Int32.ofInt cst = d) (hl' : storeLocals ls k (.int (x + d)) = some ls') (G : Go κ h ce sl pc' ls' st) : Go κ h ce sl pc ls st := by
  subst hp hv
  exact Go.pure D (fun p e below T t m c hx hby hT k' => XS.iinc hT hx rfl (hb hby hd) hl hl' k') G
theorem Go.istoreU (D : Amb κ l Z y code maxL ret rm h0 n0 Q) {k : Nat} {x : Int32} {o : Slot} (hd : decode code pc = .ok (.istore k, 2)) (hp : pc + 2 = pc') (hold : ls[k]? = some o) (ho : o = .unset ∨ ∃ w, o = .val w ∧ w.category = 1) (hl : ls.setIfInBounds k (.val (.int x)) = ls') (G : Go κ h ce sl pc' ls' rest) : Go κ h ce sl pc ls (.int x :: rest) := by
  subst hp hl
  exact Go.pure D (fun p e below T t m c hx hby hT k' => XS.istoreS hT hx rfl (hb hby hd) rfl hold ho k') G
theorem Go.istoreNU (D : Amb κ l Z y code maxL ret rm h0 n0 Q) {k : Fin 4} {x : Int32} {o : Slot} (hd : decode code pc = .ok (.istore_n k, 1)) (hp : pc + 1 = pc') (hold : ls[k.val]? = some o) (ho : o = .unset ∨ ∃ w, o = .val w ∧ w.category = 1) (hl : ls.setIfInBounds k.val (.val (.int x)) = ls') (G : Go κ h ce sl pc' ls' rest) : Go κ h ce sl pc ls (.int x :: rest) := by
  subst hp hl
  exact Go.pure D (fun p e below T t m c hx hby hT k' => XS.istoreNS hT hx rfl (hb hby hd) rfl hold ho k') G
theorem Go.astoreU (D : Amb κ l Z y code maxL ret rm h0 n0 Q) {k : Nat} {x : Value} {o : Slot} (hd : decode code pc = .ok (.astore k, 2)) (hp : pc + 2 = pc') (hv : x.isRef = true) (hc : x.category = 1) (hold : ls[k]? = some o) (ho : o = .unset ∨ ∃ w, o = .val w ∧ w.category = 1) (hl : ls.setIfInBounds k (.val x) = ls') (G : Go κ h ce sl pc' ls' rest) : Go κ h ce sl pc ls (x :: rest) := by
  subst hp hl
  exact Go.pure D (fun p e below T t m c hx hby hT k' => XS.astoreS hT hx rfl (hb hby hd) rfl hv hc hold ho k') G
theorem Go.goto (D : Amb κ l Z y code maxL ret rm h0 n0 Q) {o : Int} (hd : decode code pc = .ok (.goto o, 3)) (ho : 0 ≤ (pc : Int) + o) (hp : ((pc : Int) + o).toNat = pc') (G : Go κ h ce sl pc' ls st) : Go κ h ce sl pc ls st :=
  Go.pure D (fun p e below T t m c hx hby hT k' => XS.goto hT hx rfl rfl (hb hby hd) ho hp k') G
theorem Go.ifnullY (D : Amb κ l Z y code maxL ret rm h0 n0 Q) {o : Int} (hd : decode code pc = .ok (.ifnull o, 3)) (ho : 0 ≤ (pc : Int) + o) (hp : ((pc : Int) + o).toNat = pc') (G : Go κ h ce sl pc' ls rest) : Go κ h ce sl pc ls (.null :: rest) :=
  Go.pure D (fun p e below T t m c hx hby hT k' => XS.ifnullYes hT hx rfl rfl (hb hby hd) rfl ho hp k') G
theorem Go.ifnullN (D : Amb κ l Z y code maxL ret rm h0 n0 Q) {o : Int} {b : Addr} (hd : decode code pc = .ok (.ifnull o, 3)) (hp : pc + 3 = pc') (G : Go κ h ce sl pc' ls rest) : Go κ h ce sl pc ls (.ref b :: rest) := by
  subst hp
  exact Go.pure D (fun p e below T t m c hx hby hT k' => XS.ifnullNo hT hx rfl (hb hby hd) rfl k') G
theorem Go.ifnonnullY (D : Amb κ l Z y code maxL ret rm h0 n0 Q) {o : Int} {b : Addr} (hd : decode code pc = .ok (.ifnonnull o, 3)) (ho : 0 ≤ (pc : Int) + o) (hp : ((pc : Int) + o).toNat = pc') (G : Go κ h ce sl pc' ls rest) : Go κ h ce sl pc ls (.ref b :: rest) :=
  Go.pure D (fun p e below T t m c hx hby hT k' => XS.ifnonnullYes hT hx rfl rfl (hb hby hd) rfl ho hp k') G
theorem Go.ifnonnullN (D : Amb κ l Z y code maxL ret rm h0 n0 Q) {o : Int} (hd : decode code pc = .ok (.ifnonnull o, 3)) (hp : pc + 3 = pc') (G : Go κ h ce sl pc' ls rest) : Go κ h ce sl pc ls (.null :: rest) := by
  subst hp
  exact Go.pure D (fun p e below T t m c hx hby hT k' => XS.ifnonnullNo hT hx rfl (hb hby hd) rfl k') G
theorem Go.irem (D : Amb κ l Z y code maxL ret rm h0 n0 Q) {x z : Int32} (hd : decode code pc = .ok (.irem, 1)) (hp : pc + 1 = pc') (hz : z ≠ 0) (G : Go κ h ce sl pc' ls (.int (x % z) :: rest)) : Go κ h ce sl pc ls (.int z :: .int x :: rest) := by
  subst hp
  exact Go.calm D (fun p e s m args below meth c T locs hx hZ hown hby hml hh X eT => ⟨T, X, eT, fun t k => iremM X hx rfl (hb hby hd) rfl hz k⟩) G
theorem Go.ldcInt (D : Amb κ l Z y code maxL ret rm h0 n0 Q) {idx : Nat} {v : Int32} (w : (Jvm.Cond.constant y.cls idx v).before a0 Z = true) (hd : decode code pc = .ok (.ldc idx, 2)) (hp : pc + 2 = pc') (G : Go κ h ce sl pc' ls (.int v :: st)) : Go κ h ce sl pc ls st := by
  subst hp
  exact Go.calm D (fun p e s m args below meth c T locs hx hZ hown hby hml hh X eT => ⟨T, X, eT, X.ldcInt hx hown (mvT hZ w) (g := mkF m pc ls st) rfl (hb hby hd)⟩) G
theorem Go.ldc2Long (D : Amb κ l Z y code maxL ret rm h0 n0 Q) {idx : Nat} {v : Int64} (w : (Jvm.Cond.constantLong y.cls idx v).before a0 Z = true) (hd : decode code pc = .ok (.ldc2_w idx, 3)) (hp : pc + 3 = pc') (G : Go κ h ce sl pc' ls (.long v :: st)) : Go κ h ce sl pc ls st := by
  subst hp
  exact Go.calm D (fun p e s m args below meth c T locs hx hZ hown hby hml hh X eT => ⟨T, X, eT, X.ldc2Long hx hown (mvT hZ w) (g := mkF m pc ls st) rfl (hb hby hd)⟩) G
/-! fields -/
theorem Go.getF (D : Amb κ l Z y code maxL ret rm h0 n0 Q) {idx : Nat} {n d : String} {a : Addr} {v : Value} {O : String} (w : (Jvm.Cond.fieldLink y.cls idx O n d).before a0 Z = true) (hd : decode code pc = .ok (.getfield idx, 3)) (hp : pc + 3 = pc') (F : Fld Z h a O n d v) (G : Go κ h ce sl pc' ls (v :: rest)) : Go κ h ce sl pc ls (.ref a :: rest) := by
  subst hp
  exact Go.calm D (fun p e s m args below meth c T locs hx hZ hown hby hml hh X eT => Jvm.RoadKit.getF X hx hZ hown (host := "") (Or.inl w) Via.refl eT F (g := mkF m pc ls (.ref a :: rest)) rfl rfl (hb hby hd)) G
theorem Go.getFN (D : Amb κ l Z y code maxL ret rm h0 n0 Q) {idx : Nat} {n d host : String} {a : Addr} {v : Value} {O : String} (w : (Jvm.Cond.fieldLinkNest y.cls idx O n d host).before a0 Z = true) (hd : decode code pc = .ok (.getfield idx, 3)) (hp : pc + 3 = pc') (F : Fld Z h a O n d v) (G : Go κ h ce sl pc' ls (v :: rest)) : Go κ h ce sl pc ls (.ref a :: rest) := by
  subst hp
  exact Go.calm D (fun p e s m args below meth c T locs hx hZ hown hby hml hh X eT => Jvm.RoadKit.getF X hx hZ hown (host := host) (Or.inr w) Via.refl eT F (g := mkF m pc ls (.ref a :: rest)) rfl rfl (hb hby hd)) G
theorem Go.putF (D : Amb κ l Z y code maxL ret rm h0 n0 Q) {idx kk : Nat} {n d C O : String} {ty : FieldType} {a : Addr} {v old : Value} (w : (Jvm.Cond.fieldLink y.cls idx O n d).before a0 Z = true) (hd : decode code pc = .ok (.putfield idx, 3)) (hp : pc + 3 = pc') (F : Fld Z h a O n d old) (E : Exa Z h a C)
    (L : (Jvm.Cond.lays C O n d).before a0 Z = true ∨ ((Jvm.Cond.laysFinal C O n d).before a0 Z = true ∧ y.cls = O ∧ y.name = "<init>")) (wi : (Jvm.Cond.instantiable C kk).before a0 Z = true) (hty : parseFieldDescriptor d = some ty) (hn : narrow ty v = v) (hf : fits ty v = true) (ge : n0 ≤ a)
    (G : ∀ h', Wr h h' a (Jvm.RoadKit.slotOf Z O n d) v → Go κ h' ce sl pc' ls rest) : Go κ h ce sl pc ls (v :: .ref a :: rest) := by
  subst hp
  refine Go.turn D (fun p e s m args below meth c T locs hx hZ hown hby hml hnm X eT N => ?_) G
  obtain ⟨T', h1, X', e', W, k⟩ := Jvm.RoadKit.putF X hx hZ hown (host := "") (Or.inl w) Via.refl eT F E (L.imp id fun q => ⟨q.1, q.2.1, hnm.trans q.2.2⟩) wi hty hn hf (g := mkF m pc ls (v :: .ref a :: rest)) rfl rfl (hb hby hd)
  exact ⟨T', _, h1, X', e', Fr.snoc X' N ge, Gw.one (Keep.of_wr W) ge, W, k⟩
/-! new -/
theorem Go.newO (D : Amb κ l Z y code maxL ret rm h0 n0 Q) {idx n : Nat} {C : String} (w : (Jvm.Cond.classLink y.cls idx C).before a0 Z = true) (wi : (Jvm.Cond.instantiable C n).before a0 Z = true) (wz : (Jvm.Cond.initialized C).before a0 Z = true) (hd : decode code pc = .ok (.new idx, 3)) (hp : pc + 3 = pc') (hce : ce + 1 = ce') (hsl : sl + n = sl') (hc : ce' ≤ rm.cells) (hs : sl' ≤ rm.slots)
    (G : ∀ h' a, a = h.size → Ext h h' → Exa Z h' a C → (∀ {O nm d : String} {ty : FieldType}, Laid Z a0 C O nm d → parseFieldDescriptor d = some ty → Fld Z h' a O nm d (defaultValue ty)) → Go κ h' ce' sl' pc' ls (.ref a :: st)) : Go κ h ce sl pc ls st := by
  subst hp hce hsl
  refine Go.turn D (P := fun h' => Ext h h' ∧ Exa Z h' h.size C ∧ (∀ {O nm d : String} {ty : FieldType}, Laid Z a0 C O nm d → parseFieldDescriptor d = some ty → Fld Z h' h.size O nm d (defaultValue ty))) (fun p e s m args below meth c T locs hx hZ hown hby hml hnm X eT N => ?_) (fun h' q => G h' _ rfl q.1 q.2.1 q.2.2)
  obtain ⟨T', h1, X', e', E, A, F, -, k⟩ := Jvm.RoadKit.newO X hx hZ hown w wi wz eT (g := mkF m pc ls st) rfl (hb hby hd) hc hs
  exact ⟨T', _, h1, X', e', N, Gw.ext E, ⟨E, A, F⟩, k⟩
theorem Go.newP (D : Amb κ l Z y code maxL ret rm h0 n0 Q) {aty : ArrayType} {n : Int32} {cap : Nat} (w : (Jvm.Cond.arrayClass (newarray.typeOf aty)).before a0 Z = true) (hd : decode code pc = .ok (.newarray aty, 2)) (hp : pc + 2 = pc') (hn : ¬ n < 0) (hcap : n.toNatClampNeg ≤ cap) (hb' : cap * 8 ≤ 536870912) (hce : ce + 1 = ce') (hsl : sl + cap = sl') (hc : ce' ≤ rm.cells) (hs : sl' ≤ rm.slots)
    (G : ∀ h' a k, a = h.size → Ext h h' → Arv Z h' a k (newarray.typeOf aty) n [] (defaultValue (newarray.typeOf aty)) → Go κ h' ce' sl' pc' ls (.ref a :: rest)) : Go κ h ce sl pc ls (.int n :: rest) := by
  subst hp hce hsl
  refine Go.turn D (P := fun h' => ∃ k, Ext h h' ∧ Arv Z h' h.size k (newarray.typeOf aty) n [] (defaultValue (newarray.typeOf aty))) (fun p e s m args below meth c T locs hx hZ hown hby hml hnm X eT N => ?_) (fun h' q => by obtain ⟨k, q1, q2⟩ := q; exact G h' _ k rfl q1 q2)
  obtain ⟨T', h1, k, X', e', E, A, st'⟩ := Jvm.RoadKit.newP X hx hZ w eT (g := mkF m pc ls (.int n :: rest)) rfl (hb hby hd) rfl hn hcap hb' hc hs
  exact ⟨T', _, h1, X', e', N, Gw.ext E, ⟨k, E, Arv.new A hn⟩, st'⟩
theorem Go.newPE (D : Amb κ l Z y code maxL ret rm h0 n0 Q) {aty : ArrayType} {n : Int32} {cap : Nat} {ad : String} (w : (Jvm.Cond.arrayClass (newarray.typeOf aty)).before a0 Z = true) (hd : decode code pc = .ok (.newarray aty, 2)) (hp : pc + 2 = pc') (hn : ¬ n < 0) (hcap : n.toNatClampNeg ≤ cap) (hb' : cap * 8 ≤ 536870912) (had : "[" ++ (newarray.typeOf aty).toString = ad) (hce : ce + 1 = ce') (hsl : sl + cap = sl') (hc : ce' ≤ rm.cells) (hs : sl' ≤ rm.slots)
    (G : ∀ h' a k, a = h.size → Ext h h' → Arv Z h' a k (newarray.typeOf aty) n [] (defaultValue (newarray.typeOf aty)) → Exa Z h' a ad → Go κ h' ce' sl' pc' ls (.ref a :: rest)) : Go κ h ce sl pc ls (.int n :: rest) := by
  subst hp hce hsl
  refine Go.turn D (P := fun h' => ∃ k, Ext h h' ∧ Arv Z h' h.size k (newarray.typeOf aty) n [] (defaultValue (newarray.typeOf aty)) ∧ Exa Z h' h.size ad) (fun p e s m args below meth c T locs hx hZ hown hby hml hnm X eT N => ?_) (fun h' q => by obtain ⟨k, q1, q2, q3⟩ := q; exact G h' _ k rfl q1 q2 q3)
  obtain ⟨T', h1, k, X', e', E, A, XA, st'⟩ := Jvm.RoadKit.newPE X hx hZ w eT (g := mkF m pc ls (.int n :: rest)) rfl (hb hby hd) rfl hn hcap hb' hc hs had
  exact ⟨T', _, h1, X', e', N, Gw.ext E, ⟨k, E, Arv.new A hn, XA⟩, st'⟩
theorem Go.cloneV (D : Amb κ l Z y code maxL ret rm h0 n0 Q) {idx : Nat} {ad : String} {a : Addr} {k : ClassId} {ty : FieldType} {n : Int32} {vs : List Value} {dv : Value} {cap W : Nat} (w1 : (Jvm.Cond.methodLink y.cls idx ⟨ad, "clone", "()Ljava/lang/Object;"⟩).before a0 Z = true) (w2 : (Jvm.Cond.sameMethod ad "java/lang/Object" "clone" "()Ljava/lang/Object;").before a0 Z = true) (w3 : (Jvm.Cond.native ⟨"java/lang/Object", "clone", "()Ljava/lang/Object;"⟩).before a0 Z = true)
    (w4 : (Jvm.Cond.instanceMethod ⟨"java/lang/Object", "clone", "()Ljava/lang/Object;"⟩).before a0 Z = true) (w5 : (Jvm.Cond.selects ad ⟨ad, "clone", "()Ljava/lang/Object;"⟩ ⟨"java/lang/Object", "clone", "()Ljava/lang/Object;"⟩).before a0 Z = true) (w6 : (Jvm.Cond.castable ad "java/lang/Cloneable").before a0 Z = true)
    (hd : decode code pc = .ok (.invokevirtual idx, 3)) (hp : pc + 3 = pc') (hls : ls.size = maxL) (A : Arv Z h a k ty n vs dv) (E : Exa Z h a ad) (hf : 1 ≤ rm.frames) (hW : (rest.map fun v => v.category).sum = W) (hl : W + 14 ≤ rm.locals) (hcap : n.toNatClampNeg ≤ cap) (hce : ce + 1 = ce') (hsl : sl + cap = sl') (hc : ce' ≤ rm.cells) (hs : sl' ≤ rm.slots)
    (G : ∀ h' b, b = h.size → Ext h h' → Arv Z h' b k ty n vs dv → Exa Z h' b ad → Go κ h' ce' sl' pc' ls (.ref b :: rest)) : Go κ h ce sl pc ls (.ref a :: rest) := by
  subst hp hce hsl
  refine Go.turn D (P := fun h' => Ext h h' ∧ Arv Z h' h.size k ty n vs dv ∧ Exa Z h' h.size ad) (fun p e s m args below meth c T locs hx hZ hown hby hml hnm X eT N => ?_) (fun h' q => G h' _ rfl q.1 q.2.1 q.2.2)
  obtain ⟨T', h1, X', e', E', A', XA, st'⟩ := Jvm.RoadKit.cloneH X hx hZ hown w1 w2 w3 w4 w5 w6 eT A.arh E (g := mkF m pc ls (.ref a :: rest)) rfl (hls.trans hml.symm) rfl (hb hby hd) hf (W := W) (by show 2 * 0 + _ ≤ _; rw [hW]; omega) hl hcap hc hs
  exact ⟨T', _, h1, X', e', N, Gw.ext E', ⟨E', A', XA⟩, st'⟩
theorem Go.initO (D : Amb κ l Z y code maxL ret rm h0 n0 Q) {idx : Nat} {a : Addr} (w1 : (Jvm.Cond.methodLink y.cls idx Lib.objectInit).before a0 Z = true) (w2 : (Jvm.Cond.instanceMethod Lib.objectInit).before a0 Z = true) (w3 : (Jvm.Cond.code Lib.objectInit ⟨#[0xb1]⟩ 1 none).before a0 Z = true) (hd : decode code pc = .ok (.invokespecial idx, 3)) (hp : pc + 3 = pc') (hls : ls.size = maxL) (hf : 1 ≤ rm.frames) {W : Nat} (hW : (rest.map fun v => v.category).sum = W) (hl : W + 12 ≤ rm.locals)
    (G : Go κ h ce sl pc' ls rest) : Go κ h ce sl pc ls (.ref a :: rest) := by
  subst hp
  exact Go.calm D (fun p e s m args below meth c T locs hx hZ hown hby hml hh X eT => Jvm.RoadKit.initO X hx hZ hown w1 w2 w3 eT (g := mkF m pc ls (.ref a :: rest)) rfl (hls.trans hml.symm) rfl (hb hby hd) hf (W := W) (by show 2 * 0 + _ ≤ _; rw [hW]; omega) hl) G
/-! arrays -/
section Arrays
variable {a : Addr} {k : ClassId} {n j : Int32} {vs : List Value} {dv v : Value}
theorem Go.alen (D : Amb κ l Z y code maxL ret rm h0 n0 Q) {ty : FieldType} (hd : decode code pc = .ok (.arraylength, 1)) (hp : pc + 1 = pc') (A : Arv Z h a k ty n vs dv) (G : Go κ h ce sl pc' ls (.int n :: rest)) : Go κ h ce sl pc ls (.ref a :: rest) := by
  subst hp
  obtain ⟨c', A1, A2, A3, A4, A5, A6⟩ := A
  refine Go.calm D (fun p e s m args below meth c T locs hx hZ hown hby hml hh X eT => ⟨T, X, eT, fun t q => ?_⟩) G
  refine X.arraylength hx (by rw [eT]; exact A1.1) (State.isArrayOf_alike hZ.alike A1.2.1) (g := mkF m pc ls (.ref a :: rest)) rfl rfl (hb hby hd) t ?_
  rw [len_of A3 A4]; exact q
theorem Go.iaload (D : Amb κ l Z y code maxL ret rm h0 n0 Q) (hd : decode code pc = .ok (.iaload, 1)) (hp : pc + 1 = pc') (A : Arv Z h a k .int n vs dv) (h1 : ¬ j < 0) (h2 : j < n) (hv : vs.getD j.toNatClampNeg dv = v) (G : Go κ h ce sl pc' ls (v :: rest)) : Go κ h ce sl pc ls (.int j :: .ref a :: rest) := by
  subst hp
  obtain ⟨c', A1, A2, A3, A4, A5, A6, A7⟩ := A.inb h1 h2
  exact Go.calm D (fun p e s m args below meth c T locs hx hZ hown hby hml hh X eT => ⟨T, X, eT, fun t q => X.iaload hx (by rw [eT]; exact A1.1) (State.isArrayOf_alike hZ.alike A1.2.1) A1.2.2 A7 (A5.at A7 hv) (g := mkF m pc ls (.int j :: .ref a :: rest)) rfl rfl (hb hby hd) t q⟩) G
theorem Go.caload (D : Amb κ l Z y code maxL ret rm h0 n0 Q) (hd : decode code pc = .ok (.caload, 1)) (hp : pc + 1 = pc') (A : Arv Z h a k .char n vs dv) (h1 : ¬ j < 0) (h2 : j < n) (hv : vs.getD j.toNatClampNeg dv = v) (G : Go κ h ce sl pc' ls (v :: rest)) : Go κ h ce sl pc ls (.int j :: .ref a :: rest) := by
  subst hp
  obtain ⟨c', A1, A2, A3, A4, A5, A6, A7⟩ := A.inb h1 h2
  exact Go.calm D (fun p e s m args below meth c T locs hx hZ hown hby hml hh X eT => ⟨T, X, eT, fun t q => X.caload hx (by rw [eT]; exact A1.1) (State.isArrayOf_alike hZ.alike A1.2.1) A1.2.2 A7 (A5.at A7 hv) (g := mkF m pc ls (.int j :: .ref a :: rest)) rfl rfl (hb hby hd) t q⟩) G
theorem Go.baload (D : Amb κ l Z y code maxL ret rm h0 n0 Q) (hd : decode code pc = .ok (.baload, 1)) (hp : pc + 1 = pc') (A : Arv Z h a k .byte n vs dv) (h1 : ¬ j < 0) (h2 : j < n) (hv : vs.getD j.toNatClampNeg dv = v) (G : Go κ h ce sl pc' ls (v :: rest)) : Go κ h ce sl pc ls (.int j :: .ref a :: rest) := by
  subst hp
  obtain ⟨c', A1, A2, A3, A4, A5, A6, A7⟩ := A.inb h1 h2
  exact Go.calm D (fun p e s m args below meth c T locs hx hZ hown hby hml hh X eT => ⟨T, X, eT, fun t q => X.baloadBytes hx (by rw [eT]; exact A1.1) (State.isArrayOf_alike hZ.alike A1.2.1) A1.2.2 A7 (A5.at A7 hv) (g := mkF m pc ls (.int j :: .ref a :: rest)) rfl rfl (hb hby hd) t q⟩) G
theorem Go.iastore (D : Amb κ l Z y code maxL ret rm h0 n0 Q) {x : Int32} {i : Nat} (hd : decode code pc = .ok (.iastore, 1)) (hp : pc + 1 = pc') (A : Arv Z h a k .int n vs dv) (h1 : ¬ j < 0) (h2 : j < n) (hj : j.toNatClampNeg = i) (hi : i < vs.length) (ge : n0 ≤ a)
    (G : ∀ h', Keep h h' [a] → Arv Z h' a k .int n (vs.set i (.int x)) dv → Go κ h' ce sl pc' ls rest) : Go κ h ce sl pc ls (.int x :: .int j :: .ref a :: rest) := by
  subst hp
  obtain ⟨c', A1, A2, A3, A4, A5, A6, A7⟩ := A.inb h1 h2
  refine Go.turn D (P := fun h' => Keep h h' [a] ∧ Arv Z h' a k .int n (vs.set i (.int x)) dv) (fun p e s m args below meth c T locs hx hZ hown hby hml hnm X eT N => ?_) (fun h' q => G h' q.1 q.2)
  obtain ⟨T', h1, X', e', W, q⟩ := stI X hx hZ eT A1 A7 (g := mkF m pc ls (.int x :: .int j :: .ref a :: rest)) rfl rfl (hb hby hd)
  exact ⟨T', _, h1, X', e', Fr.snoc X' N ge, Gw.one (Keep.of_wr W) ge, ⟨Keep.of_wr W, Arv.set A1 A2 A3 A4 A5 A6 rfl W i hj hi⟩, q⟩
theorem Go.castore (D : Amb κ l Z y code maxL ret rm h0 n0 Q) {x x' : Int32} {i : Nat} (hd : decode code pc = .ok (.castore, 1)) (hp : pc + 1 = pc') (A : Arv Z h a k .char n vs dv) (h1 : ¬ j < 0) (h2 : j < n) (hj : j.toNatClampNeg = i) (hi : i < vs.length) (ge : n0 ≤ a) (hx' : nar .char x = x')
    (G : ∀ h', Keep h h' [a] → Arv Z h' a k .char n (vs.set i (.int x')) dv → Go κ h' ce sl pc' ls rest) : Go κ h ce sl pc ls (.int x :: .int j :: .ref a :: rest) := by
  subst hp hx'
  obtain ⟨c', A1, A2, A3, A4, A5, A6, A7⟩ := A.inb h1 h2
  refine Go.turn D (P := fun h' => Keep h h' [a] ∧ Arv Z h' a k .char n (vs.set i (.int (nar .char x))) dv) (fun p e s m args below meth c T locs hx hZ hown hby hml hnm X eT N => ?_) (fun h' q => G h' q.1 q.2)
  obtain ⟨T', h1, X', e', W, q⟩ := stC X hx hZ eT A1 A7 (g := mkF m pc ls (.int x :: .int j :: .ref a :: rest)) rfl rfl (hb hby hd)
  exact ⟨T', _, h1, X', e', Fr.snoc X' N ge, Gw.one (Keep.of_wr W) ge, ⟨Keep.of_wr W, Arv.set A1 A2 A3 A4 A5 A6 (fits_nar_char x) W i hj hi⟩, q⟩
theorem Go.bastore (D : Amb κ l Z y code maxL ret rm h0 n0 Q) {x x' : Int32} {i : Nat} (hd : decode code pc = .ok (.bastore, 1)) (hp : pc + 1 = pc') (A : Arv Z h a k .byte n vs dv) (h1 : ¬ j < 0) (h2 : j < n) (hj : j.toNatClampNeg = i) (hi : i < vs.length) (ge : n0 ≤ a) (hx' : nar .byte x = x')
    (G : ∀ h', Keep h h' [a] → Arv Z h' a k .byte n (vs.set i (.int x')) dv → Go κ h' ce sl pc' ls rest) : Go κ h ce sl pc ls (.int x :: .int j :: .ref a :: rest) := by
  subst hp hx'
  obtain ⟨c', A1, A2, A3, A4, A5, A6, A7⟩ := A.inb h1 h2
  refine Go.turn D (P := fun h' => Keep h h' [a] ∧ Arv Z h' a k .byte n (vs.set i (.int (nar .byte x))) dv) (fun p e s m args below meth c T locs hx hZ hown hby hml hnm X eT N => ?_) (fun h' q => G h' q.1 q.2)
  obtain ⟨T', h1, X', e', W, q⟩ := stB X hx hZ eT A1 A7 (g := mkF m pc ls (.int x :: .int j :: .ref a :: rest)) rfl rfl (hb hby hd)
  exact ⟨T', _, h1, X', e', Fr.snoc X' N ge, Gw.one (Keep.of_wr W) ge, ⟨Keep.of_wr W, Arv.set A1 A2 A3 A4 A5 A6 (fits_nar_byte x) W i hj hi⟩, q⟩
end Arrays
/-! classes of objects -/
theorem Go.castY (D : Amb κ l Z y code maxL ret rm h0 n0 Q) {idx : Nat} {K : String} {a : Addr} (w : (Jvm.Cond.classLink y.cls idx K).before a0 Z = true) (hd : decode code pc = .ok (.checkcast idx, 3)) (hp : pc + 3 = pc') (F : Ins Z h a K true) (G : Go κ h ce sl pc' ls (.ref a :: rest)) : Go κ h ce sl pc ls (.ref a :: rest) := by
  subst hp
  exact Go.calm D (fun p e s m args below meth c T locs hx hZ hown hby hml hh X eT => Jvm.RoadKit.castY X hx hZ hown w eT F (g := mkF m pc ls (.ref a :: rest)) rfl rfl (hb hby hd)) G
theorem Go.instY (D : Amb κ l Z y code maxL ret rm h0 n0 Q) {idx : Nat} {K : String} {a : Addr} (w : (Jvm.Cond.classLink y.cls idx K).before a0 Z = true) (hd : decode code pc = .ok (.instanceof idx, 3)) (hp : pc + 3 = pc') (F : Ins Z h a K true) (G : Go κ h ce sl pc' ls (.int 1 :: rest)) : Go κ h ce sl pc ls (.ref a :: rest) := by
  subst hp
  exact Go.calm D (fun p e s m args below meth c T locs hx hZ hown hby hml hh X eT => Jvm.RoadKit.instY X hx hZ hown w eT F (g := mkF m pc ls (.ref a :: rest)) rfl rfl (hb hby hd)) G
theorem Go.instN (D : Amb κ l Z y code maxL ret rm h0 n0 Q) {idx : Nat} {K C : String} {a : Addr} (w : (Jvm.Cond.classLink y.cls idx K).before a0 Z = true) (hd : decode code pc = .ok (.instanceof idx, 3)) (hp : pc + 3 = pc') (F : ∃ c t, Z.vm.findClass C = some c ∧ Z.vm.findClass K = some t ∧ Z.vm.assignable c t = false) (E : Exa Z h a C) (G : Go κ h ce sl pc' ls (.int 0 :: rest)) : Go κ h ce sl pc ls (.ref a :: rest) := by
  subst hp
  exact Go.calm D (fun p e s m args below meth c T locs hx hZ hown hby hml hh X eT => instNo X hx hZ hown w eT E F (g := mkF m pc ls (.ref a :: rest)) rfl rfl (hb hby hd)) G
theorem Go.instNull (D : Amb κ l Z y code maxL ret rm h0 n0 Q) {idx : Nat} (hd : decode code pc = .ok (.instanceof idx, 3)) (hp : pc + 3 = pc') (G : Go κ h ce sl pc' ls (.int 0 :: rest)) : Go κ h ce sl pc ls (.null :: rest) := by
  subst hp
  exact Go.calm D (fun p e s m args below meth c T locs hx hZ hown hby hml hh X eT => ⟨T, X, eT, X.instanceofNull hx (g := mkF m pc ls (.null :: rest)) rfl rfl (hb hby hd)⟩) G
theorem Go.acmpNe (D : Amb κ l Z y code maxL ret rm h0 n0 Q) {o : Int} {x z : Value} (h1 : x.isRef = true) (h2 : z.isRef = true) (hd : decode code pc = .ok (.if_acmp .ne o, 3)) (ho : 0 ≤ (pc : Int) + o) (hp : ((pc : Int) + o).toNat = pc') (hp2 : pc + 3 = pc2)
    (Gt : ¬ x = z → Go κ h ce sl pc' ls rest) (Gf : x = z → Go κ h ce sl pc2 ls rest) : Go κ h ce sl pc ls (z :: x :: rest) := by
  subst hp hp2
  by_cases q : x = z
  · exact Go.calm D (fun p e s m args below meth c T locs hx hZ hown hby hml hh X eT => ⟨T, X, eT, fun t k => acmp (g := mkF m pc ls (z :: x :: rest)) X hx rfl h1 h2 (same := true) rfl (hb hby hd) rfl (by simp [q]) ho (by simp [acV]) k⟩) (Gf q)
  · exact Go.calm D (fun p e s m args below meth c T locs hx hZ hown hby hml hh X eT => ⟨T, X, eT, fun t k => acmp (g := mkF m pc ls (z :: x :: rest)) X hx rfl h1 h2 (same := false) rfl (hb hby hd) rfl (by simp [q]) ho (by simp [acV]) k⟩) (Gt q)
theorem Go.acmpEq (D : Amb κ l Z y code maxL ret rm h0 n0 Q) {o : Int} {x z : Value} (h1 : x.isRef = true) (h2 : z.isRef = true) (hd : decode code pc = .ok (.if_acmp .eq o, 3)) (ho : 0 ≤ (pc : Int) + o) (hp : ((pc : Int) + o).toNat = pc') (hp2 : pc + 3 = pc2)
    (Gt : x = z → Go κ h ce sl pc' ls rest) (Gf : ¬ x = z → Go κ h ce sl pc2 ls rest) : Go κ h ce sl pc ls (z :: x :: rest) := by
  subst hp hp2
  by_cases q : x = z
  · exact Go.calm D (fun p e s m args below meth c T locs hx hZ hown hby hml hh X eT => ⟨T, X, eT, fun t k => acmp (g := mkF m pc ls (z :: x :: rest)) X hx rfl h1 h2 (same := true) rfl (hb hby hd) rfl (by simp [q]) ho (by simp [acV]) k⟩) (Gt q)
  · exact Go.calm D (fun p e s m args below meth c T locs hx hZ hown hby hml hh X eT => ⟨T, X, eT, fun t k => acmp (g := mkF m pc ls (z :: x :: rest)) X hx rfl h1 h2 (same := false) rfl (hb hby hd) rfl (by simp [q]) ho (by simp [acV]) k⟩) (Gf q)
/-! System.arraycopy -/
theorem Go.acopy (D : Amb κ l Z y code maxL ret rm h0 n0 Q) {idx sN dN nN : Nat} {a b : Addr} {k k' : ClassId} {ty : FieldType} {z z' sp dp nn : Int32} {vs vd : List Value} {dv dd : Value} (w1 : (Jvm.Cond.methodLink y.cls idx Jvm.Stand.acN).before a0 Z = true) (w2 : (Jvm.Cond.native Jvm.Stand.acN).before a0 Z = true) (w3 : (Jvm.Cond.static Jvm.Stand.acN).before a0 Z = true) (w4 : (Jvm.Cond.initialized "java/lang/System").before a0 Z = true)
    (hd : decode code pc = .ok (.invokestatic idx, 3)) (hp : pc + 3 = pc') (A : Arv Z h a k ty z vs dv) (B : Arv Z h b k' ty z' vd dd) (hty : refKind ty = false) (h1 : ¬ sp < 0) (h2 : ¬ dp < 0) (h3 : ¬ nn < 0) (e1 : sp.toNatClampNeg = sN) (e2 : dp.toNatClampNeg = dN) (e3 : nn.toNatClampNeg = nN) (h4 : sN + nN ≤ z.toNatClampNeg) (h5 : dN + nN ≤ z'.toNatClampNeg)
    (hl : dN + nN ≤ vd.length) (ge : n0 ≤ b) (hls : ls.size = maxL) (hf : 1 ≤ rm.frames) {W : Nat} (hW : (rest.map fun v => v.category).sum = W) (hlo : W + (nativeFrameWords "java/lang/System" "arraycopy" 5 + 11) ≤ rm.locals)
    (G : ∀ h', Keep h h' [b] → Arv Z h' b k' ty z' (vd.take dN ++ ((List.range nN).map fun i => vs.getD (sN + i) dv) ++ vd.drop (dN + nN)) dd → Go κ h' ce sl pc' ls rest) : Go κ h ce sl pc ls (.int nn :: .int dp :: .ref b :: .int sp :: .ref a :: rest) := by
  subst hp e1 e2 e3
  refine Go.turn D (P := fun h' => Keep h h' [b] ∧ Arv Z h' b k' ty z' (vd.take dp.toNatClampNeg ++ ((List.range nn.toNatClampNeg).map fun i => vs.getD (sp.toNatClampNeg + i) dv) ++ vd.drop (dp.toNatClampNeg + nn.toNatClampNeg)) dd) (fun p e s m args below meth c T locs hx hZ hown hby hml hnm X eT N => ?_) (fun h' q => G h' q.1 q.2)
  obtain ⟨T', h1, L, X', e', N', K, A', q⟩ := cpA X hx hZ hown w1 w2 w3 w4 eT A B (Or.inl ⟨rfl, hty⟩) h1 h2 h3 h4 h5 rfl hl N ge (g := mkF m pc ls (.int nn :: .int dp :: .ref b :: .int sp :: .ref a :: rest)) rfl (hls.trans hml.symm) rfl (hb hby hd) hf (W := W) (by show 2 * 0 + _ ≤ _; rw [hW]; omega) hlo
  exact ⟨T', L, h1, X', e', N', Gw.one K ge, ⟨K, A'⟩, q⟩
theorem nin1 {x y : Addr} (q : x ≠ y) : x ∉ [y] := fun z => q (List.mem_singleton.mp z)
/-! calls -/
section Calls
variable {z : MethodName} {bytes : ByteArray} {maxLz : Nat} {retz : Option FieldType} {rmz : Room} {argsL : List Value} {Qz : Option Value → Heap → Prop} {idx : Nat} {ps : List FieldType} {rt : Option FieldType}
theorem Go.callS (D : Amb κ l Z y code maxL ret rm h0 n0 Q) (M : Con l Z z bytes maxLz retz rmz [] argsL.toArray h n0 Qz) (w1 : (Jvm.Cond.methodLink y.cls idx z).before a0 Z = true) (w2 : (Jvm.Cond.static z).before a0 Z = true) (w3 : (Jvm.Cond.initialized z.cls).before a0 Z = true) (w4 : (Jvm.Cond.code z bytes maxLz retz).before a0 Z = true)
    (hz : z.cls ≠ "java/lang/invoke/MethodHandle" ∧ z.cls ≠ "java/lang/invoke/VarHandle") (hd : decode code pc = .ok (.invokestatic idx, 3)) (hp : pc + 3 = pc') (hpd : parseMethodDescriptor z.desc = some ⟨ps, rt⟩) (hlen : argsL.length = ps.length) (hst : st = argsL.reverse ++ rest) (hls : ls.size = maxL)
    (hf : rmz.frames + 1 ≤ rm.frames) {W : Nat} (hW : (rest.map fun v => v.category).sum = W) (hlo : W + (maxLz + 11) + rmz.locals ≤ rm.locals) (hce : ce + rmz.cells ≤ ce') (hsl : sl + rmz.slots ≤ sl') (hc : ce' ≤ rm.cells) (hs : sl' ≤ rm.slots)
    (G : ∀ v h', Qz v h' → Go κ h' ce' sl' pc' ls (v.toList ++ rest)) : Go κ h ce sl pc ls st := by
  subst hp
  obtain ⟨p, l', e, R, s, m, args, below, meth, c, n0', Q'⟩ := κ
  obtain ⟨rfl, rfl, rfl, hQ, hx, hZ, hown, hby, hml, hret, hlk, hnm, hh⟩ := D
  intro T locs X eT N
  obtain ⟨v, _, ⟨T1, L1, k1, n1⟩, -, X1, ⟨Lc, hQ1, l1, y1, z1⟩, st1⟩ := Jvm.LawKit.callS X hx (y := z) hown (mvT hZ w1) (mvT hZ w2) (mvT hZ w3) (mvT hZ w4) hz (backOf (W := W) (Q := fun v h L => Fr _ L ∧ Qz v h) M hZ w4 w3 hf hlo) (g := mkF m pc ls st) rfl (hls.trans hml.symm) (argsL := argsL) (rest := rest) (lenOf hpd hlen) hst (by show 2 * 0 + _ ≤ _; rw [hW]; omega) (hb hby hd) (fun _ _ => ⟨rfl, eT, Nat.le_trans hce hc, Nat.le_trans hsl hs⟩)
  dsimp only [Pt.U, Pt.locs, Pt.cells, Pt.slots] at X1 l1 y1 z1 st1 hQ1
  subst l1 y1 z1
  obtain ⟨s₂, o, g1, g2⟩ := G v T1.heap hQ1.2 T1 _ (sd_mono X1 hce hsl) rfl (Fr.app N hQ1.1)
  exact ⟨s₂, o, st1 _ g1, g2⟩
theorem Go.callI (D : Amb κ l Z y code maxL ret rm h0 n0 Q) {a : Addr} (M : Con l Z z bytes maxLz none rmz [] (.ref a :: argsL).toArray h n0 Qz) (hz1 : z.name = "<init>") (w1 : (Jvm.Cond.methodLink y.cls idx z).before a0 Z = true) (w2 : (Jvm.Cond.instanceMethod z).before a0 Z = true) (w3 : (Jvm.Cond.initialized z.cls).before a0 Z = true) (w4 : (Jvm.Cond.code z bytes maxLz none).before a0 Z = true)
    (hz : z.cls ≠ "java/lang/invoke/MethodHandle" ∧ z.cls ≠ "java/lang/invoke/VarHandle") (hd : decode code pc = .ok (.invokespecial idx, 3)) (hp : pc + 3 = pc') (hpd : parseMethodDescriptor z.desc = some ⟨ps, rt⟩) (hlen : argsL.length = ps.length) (hst : st = argsL.reverse ++ .ref a :: rest) (hls : ls.size = maxL)
    (hf : rmz.frames + 1 ≤ rm.frames) {W : Nat} (hW : (rest.map fun v => v.category).sum = W) (hlo : W + (maxLz + 11) + rmz.locals ≤ rm.locals) (hce : ce + rmz.cells ≤ ce') (hsl : sl + rmz.slots ≤ sl') (hc : ce' ≤ rm.cells) (hs : sl' ≤ rm.slots)
    (G : ∀ v h', Qz v h' → Go κ h' ce' sl' pc' ls (v.toList ++ rest)) : Go κ h ce sl pc ls st := by
  subst hp
  obtain ⟨p, l', e, R, s, m, args, below, meth, c, n0', Q'⟩ := κ
  obtain ⟨rfl, rfl, rfl, hQ, hx, hZ, hown, hby, hml, hret, hlk, hnm, hh⟩ := D
  intro T locs X eT N
  obtain ⟨v, _, ⟨T1, L1, k1, n1⟩, -, X1, ⟨Lc, hQ1, l1, y1, z1⟩, st1⟩ := X.specialBack hx (y := z) hz1 hown (mvT hZ w1) (mvT hZ w2) (mvT hZ w4) hz (backOf (W := W) (Q := fun v h L => Fr _ L ∧ Qz v h) M hZ w4 w3 hf hlo) (g := mkF m pc ls st) rfl (hls.trans hml.symm) (Steps.refl _) (a := a) (argsL := argsL) (rest := rest) (lenOf hpd hlen) hst (by show 2 * 0 + _ ≤ _; rw [hW]; omega) (hb hby hd) (fun _ _ => ⟨rfl, eT, Nat.le_trans hce hc, Nat.le_trans hsl hs⟩)
  dsimp only [Pt.U, Pt.locs, Pt.cells, Pt.slots] at X1 l1 y1 z1 st1 hQ1
  subst l1 y1 z1
  obtain ⟨s₂, o, g1, g2⟩ := G v T1.heap hQ1.2 T1 _ (sd_mono X1 hce hsl) rfl (Fr.app N hQ1.1)
  exact ⟨s₂, o, st1.trans g1, g2⟩
theorem Go.callV (D : Amb κ l Z y code maxL ret rm h0 n0 Q) {a : Addr} {C : String} {zr : MethodName} (M : Con l Z z bytes maxLz retz rmz [] (.ref a :: argsL).toArray h n0 Qz) (w1 : (Jvm.Cond.methodLink y.cls idx zr).before a0 Z = true) (w2 : (Jvm.Cond.declares zr).before a0 Z = true) (ws : (Jvm.Cond.selects C zr z).before a0 Z = true) (wi : (Jvm.Cond.instanceMethod z).before a0 Z = true) (w3 : (Jvm.Cond.initialized z.cls).before a0 Z = true) (w4 : (Jvm.Cond.code z bytes maxLz retz).before a0 Z = true)
    (nf : ∀ s : State, Z.Warmed39 s.vm → NotFace s zr) (hz : zr.cls ≠ "java/lang/invoke/MethodHandle" ∧ zr.cls ≠ "java/lang/invoke/VarHandle") (E : Exa Z h a C) (hd : decode code pc = .ok (.invokevirtual idx, 3)) (hp : pc + 3 = pc') (hpd : parseMethodDescriptor zr.desc = some ⟨ps, rt⟩) (hlen : argsL.length = ps.length) (hst : st = argsL.reverse ++ .ref a :: rest) (hls : ls.size = maxL)
    (hf : rmz.frames + 1 ≤ rm.frames) {W : Nat} (hW : (rest.map fun v => v.category).sum = W) (hlo : W + (maxLz + 11) + rmz.locals ≤ rm.locals) (hce : ce + rmz.cells ≤ ce') (hsl : sl + rmz.slots ≤ sl') (hc : ce' ≤ rm.cells) (hs : sl' ≤ rm.slots)
    (G : ∀ v h', Qz v h' → Go κ h' ce' sl' pc' ls (v.toList ++ rest)) : Go κ h ce sl pc ls st := by
  subst hp
  obtain ⟨p, l', e, R, s, m, args, below, meth, c, n0', Q'⟩ := κ
  obtain ⟨rfl, rfl, rfl, hQ, hx, hZ, hown, hby, hml, hret, hlk, hnm, hh⟩ := D
  intro T locs X eT N
  obtain ⟨cq, kq, q1, q2, q3⟩ := isOf hZ eT E
  obtain ⟨v, _, ⟨T1, L1, k1, n1⟩, -, X1, ⟨Lc, hQ1, l1, y1, z1⟩, st1⟩ := X.virtualBack hx (y := zr) (z := z) hown (mvT hZ w1) (mvT hZ w2) (nf s hZ) (mvT hZ ws) (mvT hZ wi) hz (backOf (W := W) (Q := fun v h L => Fr _ L ∧ Qz v h) M hZ w4 w3 hf hlo) q1 q3 (g := mkF m pc ls st) rfl (hls.trans hml.symm) (Steps.refl _) (argsL := argsL) (rest := rest) (lenOf hpd hlen) hst (by show 2 * 0 + _ ≤ _; rw [hW]; omega) (hb hby hd) (fun _ _ => ⟨rfl, eT, Nat.le_trans hce hc, Nat.le_trans hsl hs⟩)
  dsimp only [Pt.U, Pt.locs, Pt.cells, Pt.slots] at X1 l1 y1 z1 st1 hQ1
  subst l1 y1 z1
  obtain ⟨s₂, o, g1, g2⟩ := G v T1.heap hQ1.2 T1 _ (sd_mono X1 hce hsl) rfl (Fr.app N hQ1.1)
  exact ⟨s₂, o, st1.trans g1, g2⟩
/-- selects y.cls y y: the class named is no interface -/
theorem nfS {C : String} {y : MethodName} (h : (Jvm.Cond.selects C y y).before a0 Z = true) : ∀ s : State, Z.Warmed39 s.vm → NotFace s y := fun s hZ => notFace_of_selects (args := #[]) (mvT hZ h)
end Calls
end Rules
end Jvm.OwnKit

namespace Jvm.Pilot.@@N@@
open Jvm Jvm.ClassFile Sem Op Lib Jvm.Free Jvm.Stand Jvm.LawKit Jvm.RoadKit Bundle Jvm.OwnKit Jvm.Pilot.@@N@@.Jvm.D

/-! numbers -/
theorem own_ti {i : Nat} (h : i < 2147483648) : (Int32.ofNat i).toInt = i := Int32.toInt_ofNat_small (by omega)
theorem own_tn {i : Nat} (h : i < 2147483648) : (Int32.ofNat i).toNatClampNeg = i := by simp only [Int32.toNatClampNeg, own_ti h]; rfl
theorem own_nn {i : Nat} (h : i < 2147483648) : ¬ Int32.ofNat i < 0 := by rw [Int32.lt_iff_toInt_lt, own_ti h]; show ¬ (i : Int) < 0; omega
theorem own_lt {i j : Nat} (hi : i < 2147483648) (hj : j < 2147483648) : Int32.ofNat i < Int32.ofNat j ↔ i < j := by rw [Int32.lt_iff_toInt_lt, own_ti hi, own_ti hj]; omega
theorem own_inj {i j : Nat} (hi : i < 2147483648) (hj : j < 2147483648) (h : Int32.ofNat i = Int32.ofNat j) : i = j := by
  have := congrArg Int32.toInt h; rw [own_ti hi, own_ti hj] at this; omega
theorem own_succ (i : Nat) : Int32.ofNat i + 1 = Int32.ofNat (i + 1) := Int32.ofNat_succ i
theorem own_sub {i j : Nat} (h : j ≤ i) (hi : i < 2147483648) : Int32.ofNat i - Int32.ofNat j = Int32.ofNat (i - j) := by
  apply Int32.toInt_inj.mp
  have h1 := c_isub (Int32.ofNat i) (Int32.ofNat j)
  have h2 := rng32 (Int32.ofNat i - Int32.ofNat j)
  rw [own_ti hi, own_ti (by omega : j < 2147483648)] at h1
  rw [own_ti (by omega : i - j < 2147483648)]
  omega
theorem own_pred {i : Nat} (h : 0 < i) (hi : i < 2147483648) : Int32.ofNat i - 1 = Int32.ofNat (i - 1) := own_sub (j := 1) h hi
theorem own_dbl {i : Nat} (h : i < 1073741824) : (2 : Int32) * Int32.ofNat i = Int32.ofNat (2 * i) := by
  apply Int32.toInt_inj.mp
  have h1 := c_imul (2 : Int32) (Int32.ofNat i)
  have h2 := rng32 ((2 : Int32) * Int32.ofNat i)
  rw [own_ti (by omega : i < 2147483648), show (2 : Int32).toInt = 2 from rfl] at h1
  rw [own_ti (by omega : 2 * i < 2147483648)]
  omega
theorem own_mid {i j : Nat} (h : i < j) (hj : j < 1048576) : ushr (Int32.ofNat i + (Int32.ofNat j - 1)) 1 = Int32.ofNat ((i + j - 1) / 2) := by
  apply Int32.toInt_inj.mp
  rw [own_pred (by omega) (by omega), own_ti (by omega : (i + j - 1) / 2 < 2147483648)]
  have h1 := c_iadd (Int32.ofNat i) (Int32.ofNat (j - 1))
  have h2 := rng32 (Int32.ofNat i + Int32.ofNat (j - 1))
  rw [own_ti (by omega : i < 2147483648), own_ti (by omega : j - 1 < 2147483648)] at h1
  have h3 := c_iushr (Int32.ofNat i + Int32.ofNat (j - 1)) 1 1 (by decide) (by decide)
  show ((Int32.ofNat i + Int32.ofNat (j - 1)).toUInt32 >>> ((1 : Int32) &&& 31).toUInt32).toInt32.toInt = _
  rw [h3]
  omega
theorem own_undo (x : Int32) : -(-(x + 1)) - 1 = x := by rw [Int32.neg_neg, Int32.add_sub_cancel]
theorem own_neg {i : Nat} (h : i < 1048576) : -(Int32.ofNat i + 1) < 0 := by
  rw [own_succ, Int32.lt_iff_toInt_lt]
  have h1 := c_ineg (Int32.ofNat (i + 1))
  have h2 := rng32 (-Int32.ofNat (i + 1))
  rw [own_ti (by omega : i + 1 < 2147483648)] at h1
  show (-Int32.ofNat (i + 1)).toInt < 0
  omega
/-! codes with their counts -/
def cnt : List (Int32 × Nat) → Int32 → Nat
  | [], _ => 0
  | p :: r, x => (if p.1 = x then p.2 else 0) + cnt r x
theorem cnt_app (A B : List (Int32 × Nat)) (x : Int32) : cnt (A ++ B) x = cnt A x + cnt B x := by
  induction A with
  | nil => simp [cnt]
  | cons p r ih => simp [cnt, ih, Nat.add_assoc]
theorem cnt_zero {ps : List (Int32 × Nat)} {x : Int32} (h : ∀ p ∈ ps, p.1 ≠ x) : cnt ps x = 0 := by
  induction ps with
  | nil => rfl
  | cons p r ih => simp [cnt, h p (by simp), ih fun q hq => h q (by simp [hq])]
theorem cnt_mem {ps : List (Int32 × Nat)} {x : Int32} (h : 0 < cnt ps x) : ∃ p ∈ ps, p.1 = x := by
  refine Classical.byContradiction fun q => ?_
  have : cnt ps x = 0 := cnt_zero fun p hp e => q ⟨p, hp, e⟩
  omega
def Srt (ps : List (Int32 × Nat)) : Prop := ps.Pairwise fun p q => p.1 < q.1
def Cts (N : Nat) (ps : List (Int32 × Nat)) : Prop := ps.length ≤ N ∧ ∀ p ∈ ps, 0 < p.2 ∧ p.2 ≤ N
/-- what the search answers -/
def BS (ps : List (Int32 × Nat)) (key r : Int32) : Prop :=
  (∃ A n B, ps = A ++ (key, n) :: B ∧ r = Int32.ofNat A.length) ∨ (∃ A B, ps = A ++ B ∧ (∀ p ∈ A, p.1 < key) ∧ (∀ p ∈ B, key < p.1) ∧ r = -(Int32.ofNat A.length + 1))
def ky (ps : List (Int32 × Nat)) (i : Nat) : Int32 := (ps.getD i (0, 0)).1
theorem ky_get {ps : List (Int32 × Nat)} {i : Nat} (h : i < ps.length) : ky ps i = ps[i].1 := by simp [ky, h]
theorem ky_lt {ps : List (Int32 × Nat)} (hs : Srt ps) {i j : Nat} (h : i < j) (hj : j < ps.length) : ky ps i < ky ps j := by
  rw [ky_get (Nat.lt_trans h hj), ky_get hj]
  exact List.pairwise_iff_getElem.mp hs i j (Nat.lt_trans h hj) hj h
theorem split_at {ps : List (Int32 × Nat)} {i : Nat} (h : i < ps.length) : ps = ps.take i ++ ps[i] :: ps.drop (i + 1) := by
  rw [List.getElem_cons_drop, List.take_append_drop]
theorem bs_hit {ps : List (Int32 × Nat)} {q : Nat} (h : q < ps.length) {key : Int32} (hk : ky ps q = key) : BS ps key (Int32.ofNat q) := by
  refine Or.inl ⟨ps.take q, ps[q].2, ps.drop (q + 1), ?_, ?_⟩
  · rw [← hk, ky_get h]; exact split_at h
  · rw [List.length_take, Nat.min_eq_left (Nat.le_of_lt h)]
theorem bs_miss {ps : List (Int32 × Nat)} {i : Nat} (h : i ≤ ps.length) {key : Int32} (h1 : ∀ t, t < i → ky ps t < key) (h2 : ∀ t, i ≤ t → t < ps.length → key < ky ps t) : BS ps key (-(Int32.ofNat i + 1)) := by
  refine Or.inr ⟨ps.take i, ps.drop i, (List.take_append_drop i ps).symm, fun p hp => ?_, fun p hp => ?_, by rw [List.length_take, Nat.min_eq_left h]⟩
  · obtain ⟨t, ht, rfl⟩ := List.getElem_of_mem hp
    have ht' : t < i := by rw [List.length_take] at ht; omega
    rw [List.getElem_take, ← ky_get (by omega)]; exact h1 t ht'
  · obtain ⟨t, ht, rfl⟩ := List.getElem_of_mem hp
    have ht' : i + t < ps.length := by rw [List.length_drop] at ht; omega
    rw [List.getElem_drop, ← ky_get ht']; exact h2 (i + t) (by omega) ht'
def vc (ps : List (Int32 × Nat)) : List Value := ps.map fun p => .int p.1
def vn (ps : List (Int32 × Nat)) : List Value := ps.map fun p => .int (Int32.ofNat p.2)
theorem vc_len (ps : List (Int32 × Nat)) : (vc ps).length = ps.length := by simp [vc]
theorem vn_len (ps : List (Int32 × Nat)) : (vn ps).length = ps.length := by simp [vn]
theorem vc_at {ps : List (Int32 × Nat)} {J : List Value} {d : Value} {i : Nat} (h : i < ps.length) : (vc ps ++ J).getD i d = .int (ky ps i) := by
  simp [vc, ky, h, List.getElem?_append_left]
theorem vn_at {A B : List (Int32 × Nat)} {J : List Value} {d : Value} {c : Int32} {n : Nat} : (vn (A ++ (c, n) :: B) ++ J).getD A.length d = .int (Int32.ofNat n) := by
  simp [vn]
/-- a place inserted: the part behind it moved up by one, then the place written -/
theorem ins_list {A B : List Value} {j : Value} {J : List Value} {dv c : Value} : ((((A ++ B ++ j :: J).take (A.length + 1) ++ ((List.range B.length).map fun i => (A ++ B ++ j :: J).getD (A.length + i) dv)) ++ (A ++ B ++ j :: J).drop (A.length + 1 + B.length)).set A.length c) = A ++ c :: (B ++ J) := by
  have h1 : ((List.range B.length).map fun i => (A ++ B ++ j :: J).getD (A.length + i) dv) = B := by
    apply List.ext_getElem (by simp)
    intro i h1 h2
    simp at h1
    simp [List.getElem?_append_left, List.getElem?_append_right, h1]
  have h2 : (A ++ B ++ j :: J).drop (A.length + 1 + B.length) = J := by
    rw [show A.length + 1 + B.length = (A ++ B ++ [j]).length by simp; omega, show A ++ B ++ j :: J = (A ++ B ++ [j]) ++ J by simp, List.drop_left]
  obtain ⟨x, hx⟩ : ∃ x, (A ++ B ++ j :: J).take (A.length + 1) = A ++ [x] := by
    cases B with
    | nil => exact ⟨j, by rw [show A ++ [] ++ j :: J = (A ++ [j]) ++ J by simp, show A.length + 1 = (A ++ [j]).length by simp, List.take_left]⟩
    | cons b B => exact ⟨b, by rw [show A ++ b :: B ++ j :: J = (A ++ [b]) ++ (B ++ j :: J) by simp, show A.length + 1 = (A ++ [b]).length by simp, List.take_left]⟩
  rw [h1, h2, hx]
  simp
/-- a place taken out: the part behind it moved down by one -/
theorem del_list {A B : List Value} {c dv : Value} {J : List Value} : ∃ j, ((A ++ c :: B ++ J).take A.length ++ ((List.range B.length).map fun i => (A ++ c :: B ++ J).getD (A.length + 1 + i) dv)) ++ (A ++ c :: B ++ J).drop (A.length + B.length) = A ++ B ++ j :: J := by
  have h1 : ((List.range B.length).map fun i => (A ++ c :: B ++ J).getD (A.length + 1 + i) dv) = B := by
    apply List.ext_getElem (by simp)
    intro i h1 h2
    simp at h1
    have e : A ++ c :: B ++ J = A ++ (c :: (B ++ J)) := by simp
    simp only [List.getElem_map, List.getElem_range, e, List.getD_eq_getElem?_getD]
    rw [List.getElem?_append_right (by omega), show A.length + 1 + i - A.length = i + 1 by omega, List.getElem?_cons_succ, List.getElem?_append_left h1]
    simp [h1]
  have h2 : (A ++ c :: B ++ J).take A.length = A := by rw [List.append_assoc, List.take_left]
  have h3 : ∃ j, (A ++ c :: B ++ J).drop (A.length + B.length) = j :: J := by
    have e : (A ++ c :: B ++ J).drop (A.length + B.length) = (c :: B).drop B.length ++ J := by
      rw [List.append_assoc, ← List.drop_drop, List.drop_left, List.drop_append_of_le_length (by simp)]
    rw [e]
    rcases List.eq_nil_or_concat B with rfl | ⟨B', b, rfl⟩
    · exact ⟨c, rfl⟩
    · exact ⟨b, by rw [show c :: B'.concat b = (c :: B') ++ [b] by simp, show (B'.concat b).length = (c :: B').length by simp, List.drop_left]; rfl⟩
  obtain ⟨j, h3⟩ := h3
  exact ⟨j, by rw [h1, h2, h3]⟩
theorem last_top {ps : List (Int32 × Nat)} {N : Nat} (hs : Srt ps) (hc : Cts N ps) {A : List (Int32 × Nat)} {r : Int32} {n : Nat} (e : ps = A ++ [(r, n)]) : 0 < cnt ps r ∧ ∀ x, 0 < cnt ps x → ¬ r < x := by
  subst e
  have hn : 0 < n := (hc.2 (r, n) (by simp)).1
  refine ⟨by rw [cnt_app]; simp [cnt]; omega, fun x hx q => ?_⟩
  obtain ⟨p, hp, rfl⟩ := cnt_mem hx
  rcases List.mem_append.mp hp with hp | hp
  · have := (List.pairwise_append.mp hs).2.2 p hp (r, n) (by simp)
    exact Int32.lt_irrefl (Int32.lt_trans q this)
  · simp at hp; subst hp; exact Int32.lt_irrefl q
theorem ins_srt {A B : List (Int32 × Nat)} {c : Int32} {n : Nat} (hs : Srt (A ++ B)) (h1 : ∀ p ∈ A, p.1 < c) (h2 : ∀ p ∈ B, c < p.1) : Srt (A ++ (c, n) :: B) := by
  obtain ⟨a1, a2, a3⟩ := List.pairwise_append.mp hs
  refine List.pairwise_append.mpr ⟨a1, List.pairwise_cons.mpr ⟨h2, a2⟩, fun p hp q hq => ?_⟩
  rcases List.mem_cons.mp hq with rfl | hq
  · exact h1 p hp
  · exact a3 p hp q hq
theorem set_srt {A B : List (Int32 × Nat)} {c : Int32} {n n' : Nat} (hs : Srt (A ++ (c, n) :: B)) : Srt (A ++ (c, n') :: B) := by
  obtain ⟨a1, a2, a3⟩ := List.pairwise_append.mp hs
  refine List.pairwise_append.mpr ⟨a1, List.pairwise_cons.mpr ⟨(List.pairwise_cons.mp a2).1, (List.pairwise_cons.mp a2).2⟩, fun p hp q hq => ?_⟩
  rcases List.mem_cons.mp hq with rfl | hq
  · exact a3 p hp (c, n) (by simp)
  · exact a3 p hp q (by simp [hq])
theorem del_srt {A B : List (Int32 × Nat)} {c : Int32} {n : Nat} (hs : Srt (A ++ (c, n) :: B)) : Srt (A ++ B) := by
  obtain ⟨a1, a2, a3⟩ := List.pairwise_append.mp hs
  exact List.pairwise_append.mpr ⟨a1, (List.pairwise_cons.mp a2).2, fun p hp q hq => a3 p hp q (by simp [hq])⟩
theorem bs_cnt {ps : List (Int32 × Nat)} {key r : Int32} (h : ∃ A B, ps = A ++ B ∧ (∀ p ∈ A, p.1 < key) ∧ (∀ p ∈ B, key < p.1) ∧ r = -(Int32.ofNat A.length + 1)) : cnt ps key = 0 := by
  obtain ⟨A, B, rfl, h1, h2, -⟩ := h
  refine cnt_zero fun p hp e => ?_
  rcases List.mem_append.mp hp with hp | hp
  · have := h1 p hp; rw [e] at this; exact Int32.lt_irrefl this
  · have := h2 p hp; rw [e] at this; exact Int32.lt_irrefl this
theorem own_add {c c' : Nat} {a x : Int32} (h : c' = c + if a = x then 1 else 0) : (a = x ∧ c' = c + 1) ∨ (¬ a = x ∧ c' = c) := by
  by_cases q : a = x
  · exact Or.inl ⟨q, by rw [if_pos q] at h; exact h⟩
  · exact Or.inr ⟨q, by rw [if_neg q] at h; exact h⟩
theorem own_rem {c c' : Nat} {a x : Int32} (h : c' + (if a = x then 1 else 0) = c) : (a = x ∧ c' + 1 = c) ∨ (¬ a = x ∧ c' = c) := by
  by_cases q : a = x
  · exact Or.inl ⟨q, by rw [if_pos q] at h; exact h⟩
  · exact Or.inr ⟨q, by rw [if_neg q] at h; exact h⟩
theorem own_ne {a b : Nat} (h : a < b ∨ b < a) : a ≠ b := fun e => by subst e; omega
theorem own_ltn {a b : Nat} (h : a < b) : a < b := h
theorem cnt_at {A B : List (Int32 × Nat)} {c : Int32} {n : Nat} (hs : Srt (A ++ (c, n) :: B)) : cnt (A ++ (c, n) :: B) c = n := by
  obtain ⟨a1, a2, a3⟩ := List.pairwise_append.mp hs
  have h1 : cnt A c = 0 := cnt_zero fun p hp e => by have := a3 p hp (c, n) (by simp); rw [e] at this; exact Int32.lt_irrefl this
  have h2 : cnt B c = 0 := cnt_zero fun p hp e => by have := (List.pairwise_cons.mp a2).1 p hp; rw [e] at this; exact Int32.lt_irrefl this
  rw [cnt_app]; simp [cnt, h1, h2]

def FB (Z : State) (h : Heap) (t : Addr) (u1 u2 : Value) (d : Int32) (fc : Int64) : Prop := Exa Z h t "com/example/opaque_cohort/opaquecohort/CodeTally" ∧ Fld Z h t "com/example/opaque_cohort/opaquecohort/CodeTally" "codes" "[I" u1 ∧ Fld Z h t "com/example/opaque_cohort/opaquecohort/CodeTally" "counts" "[I" u2 ∧ Fld Z h t "com/example/opaque_cohort/opaquecohort/CodeTally" "distinct" "I" (.int d) ∧ Fld Z h t "com/example/opaque_cohort/opaquecohort/CodeTally" "firstCodes" "J" (.long fc)
theorem FB.keep {Z : State} {h h' : Heap} {t : Addr} {u1 u2 : Value} {d : Int32} {fc : Int64} {ws : List Addr} (F : FB Z h t u1 u2 d fc) (K : Keep h h' ws) (q : t ∉ ws) : FB Z h' t u1 u2 d fc := ⟨F.1.keep K, F.2.1.keep K q, F.2.2.1.keep K q, F.2.2.2.1.keep K q, F.2.2.2.2.keep K q⟩
theorem FB.ext {Z : State} {h h' : Heap} {t : Addr} {u1 u2 : Value} {d : Int32} {fc : Int64} (F : FB Z h t u1 u2 d fc) (E : Ext h h') : FB Z h' t u1 u2 d fc := ⟨F.1.ext E, F.2.1.ext E, F.2.2.1.ext E, F.2.2.2.1.ext E, F.2.2.2.2.ext E⟩
theorem FB.set_codes {Z : State} {a0 : Array Value} (hw : ∀ d ∈ tables_1, d.before a0 Z = true) {h h' : Heap} {t : Addr} {u1 u2 : Value} {d : Int32} {fc : Int64} {v : Value} (F : FB Z h t u1 u2 d fc) (W : Wr h h' t (Jvm.RoadKit.slotOf Z "com/example/opaque_cohort/opaquecohort/CodeTally" "codes" "[I") v) : FB Z h' t v u2 d fc := ⟨F.1.wr W, F.2.1.same W, F.2.2.1.other W (Or.inr (slot_ne (Or.inl (hw _ (List.mem_of_getElem? (i := 13) rfl))) (Or.inl (hw _ (List.mem_of_getElem? (i := 11) rfl))) (by decide) (t := .array .int) (t' := .array .int) (by decide) (by decide))), F.2.2.2.1.other W (Or.inr (slot_ne (Or.inl (hw _ (List.mem_of_getElem? (i := 20) rfl))) (Or.inl (hw _ (List.mem_of_getElem? (i := 11) rfl))) (by decide) (t := .int) (t' := .array .int) (by decide) (by decide))), F.2.2.2.2.other W (Or.inr (slot_ne (Or.inl (hw _ (List.mem_of_getElem? (i := 36) rfl))) (Or.inl (hw _ (List.mem_of_getElem? (i := 11) rfl))) (by decide) (t := .long) (t' := .array .int) (by decide) (by decide)))⟩
theorem FB.set_counts {Z : State} {a0 : Array Value} (hw : ∀ d ∈ tables_1, d.before a0 Z = true) {h h' : Heap} {t : Addr} {u1 u2 : Value} {d : Int32} {fc : Int64} {v : Value} (F : FB Z h t u1 u2 d fc) (W : Wr h h' t (Jvm.RoadKit.slotOf Z "com/example/opaque_cohort/opaquecohort/CodeTally" "counts" "[I") v) : FB Z h' t u1 v d fc := ⟨F.1.wr W, F.2.1.other W (Or.inr (slot_ne (Or.inl (hw _ (List.mem_of_getElem? (i := 11) rfl))) (Or.inl (hw _ (List.mem_of_getElem? (i := 13) rfl))) (by decide) (t := .array .int) (t' := .array .int) (by decide) (by decide))), F.2.2.1.same W, F.2.2.2.1.other W (Or.inr (slot_ne (Or.inl (hw _ (List.mem_of_getElem? (i := 20) rfl))) (Or.inl (hw _ (List.mem_of_getElem? (i := 13) rfl))) (by decide) (t := .int) (t' := .array .int) (by decide) (by decide))), F.2.2.2.2.other W (Or.inr (slot_ne (Or.inl (hw _ (List.mem_of_getElem? (i := 36) rfl))) (Or.inl (hw _ (List.mem_of_getElem? (i := 13) rfl))) (by decide) (t := .long) (t' := .array .int) (by decide) (by decide)))⟩
theorem FB.set_distinct {Z : State} {a0 : Array Value} (hw : ∀ d ∈ tables_1, d.before a0 Z = true) {h h' : Heap} {t : Addr} {u1 u2 : Value} {d : Int32} {fc : Int64} {v : Int32} (F : FB Z h t u1 u2 d fc) (W : Wr h h' t (Jvm.RoadKit.slotOf Z "com/example/opaque_cohort/opaquecohort/CodeTally" "distinct" "I") (.int v)) : FB Z h' t u1 u2 v fc := ⟨F.1.wr W, F.2.1.other W (Or.inr (slot_ne (Or.inl (hw _ (List.mem_of_getElem? (i := 11) rfl))) (Or.inl (hw _ (List.mem_of_getElem? (i := 20) rfl))) (by decide) (t := .array .int) (t' := .int) (by decide) (by decide))), F.2.2.1.other W (Or.inr (slot_ne (Or.inl (hw _ (List.mem_of_getElem? (i := 13) rfl))) (Or.inl (hw _ (List.mem_of_getElem? (i := 20) rfl))) (by decide) (t := .array .int) (t' := .int) (by decide) (by decide))), F.2.2.2.1.same W, F.2.2.2.2.other W (Or.inr (slot_ne (Or.inl (hw _ (List.mem_of_getElem? (i := 36) rfl))) (Or.inl (hw _ (List.mem_of_getElem? (i := 20) rfl))) (by decide) (t := .long) (t' := .int) (by decide) (by decide)))⟩
theorem FB.set_firstCodes {Z : State} {a0 : Array Value} (hw : ∀ d ∈ tables_1, d.before a0 Z = true) {h h' : Heap} {t : Addr} {u1 u2 : Value} {d : Int32} {fc : Int64} {v : Int64} (F : FB Z h t u1 u2 d fc) (W : Wr h h' t (Jvm.RoadKit.slotOf Z "com/example/opaque_cohort/opaquecohort/CodeTally" "firstCodes" "J") (.long v)) : FB Z h' t u1 u2 d v := ⟨F.1.wr W, F.2.1.other W (Or.inr (slot_ne (Or.inl (hw _ (List.mem_of_getElem? (i := 11) rfl))) (Or.inl (hw _ (List.mem_of_getElem? (i := 36) rfl))) (by decide) (t := .array .int) (t' := .long) (by decide) (by decide))), F.2.2.1.other W (Or.inr (slot_ne (Or.inl (hw _ (List.mem_of_getElem? (i := 13) rfl))) (Or.inl (hw _ (List.mem_of_getElem? (i := 36) rfl))) (by decide) (t := .array .int) (t' := .long) (by decide) (by decide))), F.2.2.2.1.other W (Or.inr (slot_ne (Or.inl (hw _ (List.mem_of_getElem? (i := 20) rfl))) (Or.inl (hw _ (List.mem_of_getElem? (i := 36) rfl))) (by decide) (t := .int) (t' := .long) (by decide) (by decide))), F.2.2.2.2.same W⟩
/-- the tally t holds the codes ps with their counts -/
def Tal (Z : State) (h : Heap) (n0 : Nat) (t : Addr) (cap : Nat) (ps : List (Int32 × Nat)) (fc : Int64) : Prop := ∃ (ca na : Addr) (ka kb : ClassId) (jc jn : List Value), FB Z h t (.ref ca) (.ref na) (Int32.ofNat ps.length) fc ∧ Arv Z h ca ka .int (Int32.ofNat cap) (vc ps ++ jc) (.int 0) ∧ Arv Z h na kb .int (Int32.ofNat cap) (vn ps ++ jn) (.int 0) ∧ ps.length + jc.length = cap ∧ ps.length + jn.length = cap ∧ ca ≠ na ∧ ca ≠ t ∧ na ≠ t ∧ n0 ≤ t ∧ n0 ≤ ca ∧ n0 ≤ na ∧ Exa Z h ca "[I"
def FcA (k : Nat) (a : Int32) (fc fc' : Int64) : Prop := (0 < k ∧ fc' = fc) ∨ (k = 0 ∧ ((¬ a < 64 ∧ fc' = fc) ∨ (a < 64 ∧ fc' = fc ||| ((1 : Int64) <<< (a &&& 63).toInt64))))
def FcR (k : Nat) (a : Int32) (fc fc' : Int64) : Prop := (1 < k ∧ fc' = fc) ∨ (k = 1 ∧ ((¬ a < 64 ∧ fc' = fc) ∨ (a < 64 ∧ fc' = fc &&& (((1 : Int64) <<< (a &&& 63).toInt64) ^^^ (-1)))))
theorem Tal.up {Z : State} {h h' : Heap} {n0 : Nat} {t : Addr} {cap : Nat} {ps : List (Int32 × Nat)} {fc : Int64} (T : Tal Z h n0 t cap ps fc) (E : Ext h h') : Tal Z h' n0 t cap ps fc := by
  obtain ⟨ca, na, ka, kb, jc, jn, F, Ac, An, r1, r2, r3, r4, r5, r6, r7, r8, xa⟩ := T
  exact ⟨ca, na, ka, kb, jc, jn, F.ext E, Ac.ext E, An.ext E, r1, r2, r3, r4, r5, r6, r7, r8, xa.ext E⟩

theorem Tal.exa {Z : State} {h : Heap} {n0 : Nat} {t : Addr} {cap : Nat} {ps : List (Int32 × Nat)} {fc : Int64} (T : Tal Z h n0 t cap ps fc) : Exa Z h t "com/example/opaque_cohort/opaquecohort/CodeTally" := by
  obtain ⟨ca, na, ka, kb, jc, jn, F, r⟩ := T; exact F.1
theorem Tal.sz {Z : State} {h : Heap} {n0 : Nat} {t : Addr} {cap : Nat} {ps : List (Int32 × Nat)} {fc : Int64} (T : Tal Z h n0 t cap ps fc) : n0 ≤ h.size := by
  obtain ⟨ca, na, ka, kb, jc, jn, F, -, -, -, -, -, -, -, g, -⟩ := T; exact Nat.le_trans g (Nat.le_of_lt F.1.lt)

abbrev y8 : MethodName := ⟨"java/lang/Math", "min", "(II)I"⟩
theorem d8_0 : decode jdk_29_method_69_code 0 = .ok (.iload_n 0, 1) := by decide +kernel
theorem d8_1 : decode jdk_29_method_69_code 1 = .ok (.iload_n 1, 1) := by decide +kernel
theorem d8_2 : decode jdk_29_method_69_code 2 = .ok (.if_icmp .gt 7, 3) := by decide +kernel
theorem d8_5 : decode jdk_29_method_69_code 5 = .ok (.iload_n 0, 1) := by decide +kernel
theorem d8_6 : decode jdk_29_method_69_code 6 = .ok (.goto 4, 3) := by decide +kernel
theorem d8_9 : decode jdk_29_method_69_code 9 = .ok (.iload_n 1, 1) := by decide +kernel
theorem d8_10 : decode jdk_29_method_69_code 10 = .ok (.ireturn, 1) := by decide +kernel
theorem pd8 : parseMethodDescriptor "(II)I" = some ⟨[.int, .int], (some .int)⟩ := by decide +kernel
theorem pn8 : plainFor y8 = true := by first | exact plainFor_of_name (by first | (simp [plainName, overriddenIn]; done) | decide +kernel) | decide +kernel | rfl
set_option maxRecDepth 65536 in
set_option maxHeartbeats 40000000 in
theorem con_min (l : Launch) (Z : State) (a0 : Array Value) (hw : ∀ d ∈ tables_1, d.before a0 Z = true) (h0 : Heap) (n0 : Nat) (x z : Int32) :
    Con l Z y8 jdk_29_method_69_code 2 ((some .int)) ({ frames := 0, cells := 0, slots := 0, locals := 0 } : Room) [] #[(.int x), (.int z)] h0 n0 (fun v h => h = h0 ∧ ∃ r, v = some (.int r) ∧ ((z < x ∧ r = z) ∨ (¬ z < x ∧ r = x))) := by
  refine Con.of_go pn8 (ls := #[.val (.int x), .val (.int z)]) (fun m => by first | (simp [entryFrame, mkF, argsToLocals, Value.category]; done) | rfl) ?_
  intro κ D
  refine Go.iloadN D (pc' := 1) d8_0 rfl rfl ?_
  refine Go.iloadN D (pc' := 2) d8_1 rfl rfl ?_
  refine Go.icmp D (pc' := 9) (pc2 := 5) d8_2 (by decide) (by decide) rfl ?_ ?_
  · intro (hc2 : z < x)
    refine Go.iloadN D (pc' := 10) d8_9 rfl rfl ?_
    refine Go.iret D rfl d8_10 (by decide) (by decide) ?_
    exact ⟨rfl, _, rfl, Or.inl ⟨hc2, rfl⟩⟩
  · intro (hc2 : ¬ z < x)
    refine Go.iloadN D (pc' := 6) d8_5 rfl rfl ?_
    refine Go.goto D (pc' := 10) d8_6 (by decide) (by decide) ?_
    refine Go.iret D rfl d8_10 (by decide) (by decide) ?_
    exact ⟨rfl, _, rfl, Or.inr ⟨hc2, rfl⟩⟩
abbrev y5 : MethodName := ⟨"java/util/Arrays", "rangeCheck", "(III)V"⟩
theorem d5_0 : decode jdk_65_method_30_code 0 = .ok (.iload_n 1, 1) := by decide +kernel
theorem d5_1 : decode jdk_65_method_30_code 1 = .ok (.iload_n 2, 1) := by decide +kernel
theorem d5_2 : decode jdk_65_method_30_code 2 = .ok (.if_icmp .le 44, 3) := by decide +kernel
theorem d5_46 : decode jdk_65_method_30_code 46 = .ok (.iload_n 1, 1) := by decide +kernel
theorem d5_47 : decode jdk_65_method_30_code 47 = .ok (.ifCond .ge 12, 3) := by decide +kernel
theorem d5_59 : decode jdk_65_method_30_code 59 = .ok (.iload_n 2, 1) := by decide +kernel
theorem d5_60 : decode jdk_65_method_30_code 60 = .ok (.iload_n 0, 1) := by decide +kernel
theorem d5_61 : decode jdk_65_method_30_code 61 = .ok (.if_icmp .le 12, 3) := by decide +kernel
theorem d5_73 : decode jdk_65_method_30_code 73 = .ok (.return_, 1) := by decide +kernel
theorem pd5 : parseMethodDescriptor "(III)V" = some ⟨[.int, .int, .int], none⟩ := by decide +kernel
theorem pn5 : plainFor y5 = true := by first | exact plainFor_of_name (by first | (simp [plainName, overriddenIn]; done) | decide +kernel) | decide +kernel | rfl
set_option maxRecDepth 65536 in
set_option maxHeartbeats 40000000 in
theorem con_range (l : Launch) (Z : State) (a0 : Array Value) (hw : ∀ d ∈ tables_1, d.before a0 Z = true) (h0 : Heap) (n0 : Nat) (len d : Int32) (hd : ¬ d < 0) (hl : ¬ len < d) :
    Con l Z y5 jdk_65_method_30_code 3 none ({ frames := 0, cells := 0, slots := 0, locals := 0 } : Room) [] #[(.int len), (.int (0 : Int32)), (.int d)] h0 n0 (fun v h => v = none ∧ h = h0) := by
  refine Con.of_go pn5 (ls := #[.val (.int len), .val (.int (0 : Int32)), .val (.int d)]) (fun m => by first | (simp [entryFrame, mkF, argsToLocals, Value.category]; done) | rfl) ?_
  intro κ D
  refine Go.iloadN D (pc' := 1) d5_0 rfl rfl ?_
  refine Go.iloadN D (pc' := 2) d5_1 rfl rfl ?_
  refine Go.icmp D (pc' := 46) (pc2 := 5) d5_2 (by decide) (by decide) rfl ?_ ?_
  · intro (hc2 : ¬ d < (0 : Int32))
    refine Go.iloadN D (pc' := 47) d5_46 rfl rfl ?_
    refine Go.ifc D (pc' := 59) (pc2 := 50) d5_47 (by decide) (by decide) rfl (fun _ => ?_) (fun (hc : (0 : Int32) < 0) => absurd hc (by decide))
    refine Go.iloadN D (pc' := 60) d5_59 rfl rfl ?_
    refine Go.iloadN D (pc' := 61) d5_60 rfl rfl ?_
    refine Go.icmp D (pc' := 73) (pc2 := 64) d5_61 (by decide) (by decide) rfl ?_ ?_
    · intro (hc61 : ¬ len < d)
      refine Go.vret D rfl d5_73 (by decide) (by decide) ?_
      exact ⟨rfl, rfl⟩
    · intro (hc61 : len < d)
      exact absurd hc61 hl
  · intro (hc2 : d < (0 : Int32))
    exact absurd hc2 hd
abbrev y6 : MethodName := ⟨"java/util/Arrays", "binarySearch0", "([IIII)I"⟩
theorem d6_0 : decode jdk_65_method_59_code 0 = .ok (.iload_n 1, 1) := by decide +kernel
theorem d6_1 : decode jdk_65_method_59_code 1 = .ok (.istore 4, 2) := by decide +kernel
theorem d6_3 : decode jdk_65_method_59_code 3 = .ok (.iload_n 2, 1) := by decide +kernel
theorem d6_4 : decode jdk_65_method_59_code 4 = .ok (.iconst 1, 1) := by decide +kernel
theorem d6_5 : decode jdk_65_method_59_code 5 = .ok (.isub, 1) := by decide +kernel
theorem d6_6 : decode jdk_65_method_59_code 6 = .ok (.istore 5, 2) := by decide +kernel
theorem d6_8 : decode jdk_65_method_59_code 8 = .ok (.iload 4, 2) := by decide +kernel
theorem d6_10 : decode jdk_65_method_59_code 10 = .ok (.iload 5, 2) := by decide +kernel
theorem d6_12 : decode jdk_65_method_59_code 12 = .ok (.if_icmp .gt 54, 3) := by decide +kernel
theorem d6_15 : decode jdk_65_method_59_code 15 = .ok (.iload 4, 2) := by decide +kernel
theorem d6_17 : decode jdk_65_method_59_code 17 = .ok (.iload 5, 2) := by decide +kernel
theorem d6_19 : decode jdk_65_method_59_code 19 = .ok (.iadd, 1) := by decide +kernel
theorem d6_20 : decode jdk_65_method_59_code 20 = .ok (.iconst 1, 1) := by decide +kernel
theorem d6_21 : decode jdk_65_method_59_code 21 = .ok (.iushr, 1) := by decide +kernel
theorem d6_22 : decode jdk_65_method_59_code 22 = .ok (.istore 6, 2) := by decide +kernel
theorem d6_24 : decode jdk_65_method_59_code 24 = .ok (.aload_n 0, 1) := by decide +kernel
theorem d6_25 : decode jdk_65_method_59_code 25 = .ok (.iload 6, 2) := by decide +kernel
theorem d6_27 : decode jdk_65_method_59_code 27 = .ok (.iaload, 1) := by decide +kernel
theorem d6_28 : decode jdk_65_method_59_code 28 = .ok (.istore 7, 2) := by decide +kernel
theorem d6_30 : decode jdk_65_method_59_code 30 = .ok (.iload 7, 2) := by decide +kernel
theorem d6_32 : decode jdk_65_method_59_code 32 = .ok (.iload_n 3, 1) := by decide +kernel
theorem d6_33 : decode jdk_65_method_59_code 33 = .ok (.if_icmp .ge 12, 3) := by decide +kernel
theorem d6_36 : decode jdk_65_method_59_code 36 = .ok (.iload 6, 2) := by decide +kernel
theorem d6_38 : decode jdk_65_method_59_code 38 = .ok (.iconst 1, 1) := by decide +kernel
theorem d6_39 : decode jdk_65_method_59_code 39 = .ok (.iadd, 1) := by decide +kernel
theorem d6_40 : decode jdk_65_method_59_code 40 = .ok (.istore 4, 2) := by decide +kernel
theorem d6_42 : decode jdk_65_method_59_code 42 = .ok (.goto 21, 3) := by decide +kernel
theorem d6_45 : decode jdk_65_method_59_code 45 = .ok (.iload 7, 2) := by decide +kernel
theorem d6_47 : decode jdk_65_method_59_code 47 = .ok (.iload_n 3, 1) := by decide +kernel
theorem d6_48 : decode jdk_65_method_59_code 48 = .ok (.if_icmp .le 12, 3) := by decide +kernel
theorem d6_51 : decode jdk_65_method_59_code 51 = .ok (.iload 6, 2) := by decide +kernel
theorem d6_53 : decode jdk_65_method_59_code 53 = .ok (.iconst 1, 1) := by decide +kernel
theorem d6_54 : decode jdk_65_method_59_code 54 = .ok (.isub, 1) := by decide +kernel
theorem d6_55 : decode jdk_65_method_59_code 55 = .ok (.istore 5, 2) := by decide +kernel
theorem d6_57 : decode jdk_65_method_59_code 57 = .ok (.goto 6, 3) := by decide +kernel
theorem d6_60 : decode jdk_65_method_59_code 60 = .ok (.iload 6, 2) := by decide +kernel
theorem d6_62 : decode jdk_65_method_59_code 62 = .ok (.ireturn, 1) := by decide +kernel
theorem d6_63 : decode jdk_65_method_59_code 63 = .ok (.goto (-55), 3) := by decide +kernel
theorem d6_66 : decode jdk_65_method_59_code 66 = .ok (.iload 4, 2) := by decide +kernel
theorem d6_68 : decode jdk_65_method_59_code 68 = .ok (.iconst 1, 1) := by decide +kernel
theorem d6_69 : decode jdk_65_method_59_code 69 = .ok (.iadd, 1) := by decide +kernel
theorem d6_70 : decode jdk_65_method_59_code 70 = .ok (.ineg, 1) := by decide +kernel
theorem d6_71 : decode jdk_65_method_59_code 71 = .ok (.ireturn, 1) := by decide +kernel
theorem pd6 : parseMethodDescriptor "([IIII)I" = some ⟨[(.array .int), .int, .int, .int], (some .int)⟩ := by decide +kernel
theorem pn6 : plainFor y6 = true := by first | exact plainFor_of_name (by first | (simp [plainName, overriddenIn]; done) | decide +kernel) | decide +kernel | rfl
set_option maxRecDepth 65536 in
set_option maxHeartbeats 40000000 in
theorem con_bs0 (l : Launch) (Z : State) (a0 : Array Value) (hw : ∀ d ∈ tables_1, d.before a0 Z = true) (h0 : Heap) (n0 : Nat) (a : Addr) (k : ClassId) (cap : Nat) (ps : List (Int32 × Nat)) (J : List Value) (A : Arv Z h0 a k .int (Int32.ofNat cap) (vc ps ++ J) (.int 0)) (hs : Srt ps) (hl : ps.length ≤ cap) (hc : cap < 1048576) (key : Int32) :
    Con l Z y6 jdk_65_method_59_code 8 ((some .int)) ({ frames := 0, cells := 0, slots := 0, locals := 0 } : Room) [] #[(.ref a), (.int (0 : Int32)), (.int (Int32.ofNat ps.length)), (.int key)] h0 n0 (fun v h => h = h0 ∧ ∃ r, v = some (.int r) ∧ BS ps key r) := by
  refine Con.of_go pn6 (ls := #[.val (.ref a), .val (.int (0 : Int32)), .val (.int (Int32.ofNat ps.length)), .val (.int key), .unset, .unset, .unset, .unset]) (fun m => by first | (simp [entryFrame, mkF, argsToLocals, Value.category]; done) | rfl) ?_
  intro κ D
  have loop : ∀ (N i j : Nat) (s6 s7 : Slot), j - i = N → i ≤ j → j ≤ ps.length → (s6 = .unset ∨ ∃ w, s6 = .val w ∧ w.category = 1) → (s7 = .unset ∨ ∃ w, s7 = .val w ∧ w.category = 1) → (∀ u, u < i → ky ps u < key) → (∀ u, j ≤ u → u < ps.length → key < ky ps u) → Go κ h0 0 0 8 #[.val (.ref a), .val (.int (0 : Int32)), .val (.int (Int32.ofNat ps.length)), .val (.int key), .val (.int (Int32.ofNat i)), .val (.int (Int32.ofNat j - 1)), s6, s7] [] := by
    intro N
    induction N using Nat.strongRecOn with
    | _ N ih =>
      intro i j s6 s7 hN hij hj hs6 hs7 hlo hhi
      refine Go.iload D (pc' := 10) d6_8 rfl rfl ?_
      refine Go.iload D (pc' := 12) d6_10 rfl rfl ?_
      refine Go.icmp D (pc' := 66) (pc2 := 15) d6_12 (by decide) (by decide) rfl ?_ ?_
      · intro (hc12 : (Int32.ofNat j - 1) < (Int32.ofNat i))
        refine Go.iload D (pc' := 68) d6_66 rfl rfl ?_
        refine Go.iconst D (pc' := 69) d6_68 rfl (v := (1 : Int32)) rfl ?_
        refine Go.iadd D (pc' := 70) d6_69 rfl  ?_
        refine Go.ineg D (pc' := 71) d6_70 rfl  ?_
        refine Go.iret D rfl d6_71 (by decide) (by decide) ?_
        have hij' : i = j := by
          rw [Int32.lt_iff_toInt_lt, own_ti (by omega : i < 2147483648)] at hc12
          have r1 := c_isub (Int32.ofNat j) 1
          have r2 := rng32 (Int32.ofNat j - 1)
          rw [own_ti (by omega : j < 2147483648), show (1 : Int32).toInt = 1 from rfl] at r1
          omega
        subst hij'
        exact ⟨rfl, _, rfl, bs_miss hj hlo hhi⟩
      · intro (hc12 : ¬ (Int32.ofNat j - 1) < (Int32.ofNat i))
        refine Go.iload D (pc' := 17) d6_15 rfl rfl ?_
        refine Go.iload D (pc' := 19) d6_17 rfl rfl ?_
        refine Go.iadd D (pc' := 20) d6_19 rfl  ?_
        refine Go.iconst D (pc' := 21) d6_20 rfl (v := (1 : Int32)) rfl ?_
        refine Go.iushr D (pc' := 22) d6_21 rfl  ?_
        have hlt : i < j := by
          refine Classical.byContradiction fun q => hc12 ?_
          rw [Int32.lt_iff_toInt_lt, own_ti (by omega : i < 2147483648)]
          have r1 := c_isub (Int32.ofNat j) 1
          have r2 := rng32 (Int32.ofNat j - 1)
          rw [own_ti (by omega : j < 2147483648), show (1 : Int32).toInt = 1 from rfl] at r1
          omega
        rw [own_mid hlt (by omega)]
        obtain ⟨q, hq⟩ : ∃ q, q = (i + j - 1) / 2 := ⟨_, rfl⟩
        rw [← hq]
        refine Go.istoreU D (pc' := 24) d6_22 rfl rfl hs6 (ls' := #[.val (.ref a), .val (.int (0 : Int32)), .val (.int (Int32.ofNat ps.length)), .val (.int key), .val (.int (Int32.ofNat i)), .val (.int (Int32.ofNat j - 1)), .val (.int (Int32.ofNat q)), s7]) rfl ?_
        refine Go.aloadN D (pc' := 25) d6_24 rfl rfl rfl ?_
        refine Go.iload D (pc' := 27) d6_25 rfl rfl ?_
        have hqp : q < ps.length := by omega
        refine Go.iaload D (pc' := 28) d6_27 rfl A (own_nn (by omega)) ((own_lt (by omega) (by omega)).mpr (by omega)) (v := .int (ky ps q)) (by rw [own_tn (by omega)]; exact vc_at hqp) ?_
        refine Go.istoreU D (pc' := 30) d6_28 rfl rfl hs7 (ls' := #[.val (.ref a), .val (.int (0 : Int32)), .val (.int (Int32.ofNat ps.length)), .val (.int key), .val (.int (Int32.ofNat i)), .val (.int (Int32.ofNat j - 1)), .val (.int (Int32.ofNat q)), .val (.int (ky ps q))]) rfl ?_
        refine Go.iload D (pc' := 32) d6_30 rfl rfl ?_
        refine Go.iloadN D (pc' := 33) d6_32 rfl rfl ?_
        refine Go.icmp D (pc' := 45) (pc2 := 36) d6_33 (by decide) (by decide) rfl ?_ ?_
        · intro (hc33 : ¬ (ky ps q) < key)
          refine Go.iload D (pc' := 47) d6_45 rfl rfl ?_
          refine Go.iloadN D (pc' := 48) d6_47 rfl rfl ?_
          refine Go.icmp D (pc' := 60) (pc2 := 51) d6_48 (by decide) (by decide) rfl ?_ ?_
          · intro (hc48 : ¬ key < (ky ps q))
            refine Go.iload D (pc' := 62) d6_60 rfl rfl ?_
            refine Go.iret D rfl d6_62 (by decide) (by decide) ?_
            exact ⟨rfl, _, rfl, bs_hit hqp (Int32.le_antisymm (Int32.not_lt.mp hc48) (Int32.not_lt.mp hc33))⟩
          · intro (hc48 : key < (ky ps q))
            refine Go.iload D (pc' := 53) d6_51 rfl rfl ?_
            refine Go.iconst D (pc' := 54) d6_53 rfl (v := (1 : Int32)) rfl ?_
            refine Go.isub D (pc' := 55) d6_54 rfl  ?_
            refine Go.istore D (pc' := 57) d6_55 rfl (ls' := #[.val (.ref a), .val (.int (0 : Int32)), .val (.int (Int32.ofNat ps.length)), .val (.int key), .val (.int (Int32.ofNat i)), .val (.int ((Int32.ofNat q) - (1 : Int32))), .val (.int (Int32.ofNat q)), .val (.int (ky ps q))]) rfl ?_
            refine Go.goto D (pc' := 63) d6_57 (by decide) (by decide) ?_
            refine Go.goto D (pc' := 8) d6_63 (by decide) (by decide) ?_
            exact ih (q - i) (by omega) i q _ _ rfl (by omega) (by omega) (Or.inr ⟨_, rfl, rfl⟩) (Or.inr ⟨_, rfl, rfl⟩) hlo (fun u h1 h2 => (Nat.lt_or_eq_of_le h1).elim (fun z => Int32.lt_trans hc48 (ky_lt hs z h2)) (fun z => z ▸ hc48))
        · intro (hc33 : (ky ps q) < key)
          refine Go.iload D (pc' := 38) d6_36 rfl rfl ?_
          refine Go.iconst D (pc' := 39) d6_38 rfl (v := (1 : Int32)) rfl ?_
          refine Go.iadd D (pc' := 40) d6_39 rfl  ?_
          refine Go.istore D (pc' := 42) d6_40 rfl (ls' := #[.val (.ref a), .val (.int (0 : Int32)), .val (.int (Int32.ofNat ps.length)), .val (.int key), .val (.int ((Int32.ofNat q) + (1 : Int32))), .val (.int (Int32.ofNat j - 1)), .val (.int (Int32.ofNat q)), .val (.int (ky ps q))]) rfl ?_
          refine Go.goto D (pc' := 63) d6_42 (by decide) (by decide) ?_
          refine Go.goto D (pc' := 8) d6_63 (by decide) (by decide) ?_
          rw [own_succ]
          exact ih (j - (q + 1)) (by omega) (q + 1) j _ _ rfl (by omega) hj (Or.inr ⟨_, rfl, rfl⟩) (Or.inr ⟨_, rfl, rfl⟩) (fun u hu => (Nat.lt_or_eq_of_le (Nat.le_of_lt_succ hu)).elim (fun z => Int32.lt_trans (ky_lt hs z hqp) hc33) (fun z => z ▸ hc33)) hhi
  refine Go.iloadN D (pc' := 1) d6_0 rfl rfl ?_
  refine Go.istore D (pc' := 3) d6_1 rfl (ls' := #[.val (.ref a), .val (.int (0 : Int32)), .val (.int (Int32.ofNat ps.length)), .val (.int key), .val (.int (0 : Int32)), .unset, .unset, .unset]) rfl ?_
  refine Go.iloadN D (pc' := 4) d6_3 rfl rfl ?_
  refine Go.iconst D (pc' := 5) d6_4 rfl (v := (1 : Int32)) rfl ?_
  refine Go.isub D (pc' := 6) d6_5 rfl  ?_
  refine Go.istore D (pc' := 8) d6_6 rfl (ls' := #[.val (.ref a), .val (.int (0 : Int32)), .val (.int (Int32.ofNat ps.length)), .val (.int key), .val (.int (0 : Int32)), .val (.int ((Int32.ofNat ps.length) - (1 : Int32))), .unset, .unset]) rfl ?_
  rw [show (0 : Int32) = Int32.ofNat 0 from rfl]
  exact loop (ps.length - 0) 0 ps.length _ _ rfl (by omega) (by omega) (Or.inl rfl) (Or.inl rfl) (fun u hu => absurd hu (Nat.not_lt_zero u)) (fun u h1 h2 => absurd h2 (by omega))
abbrev y4 : MethodName := ⟨"java/util/Arrays", "binarySearch", "([IIII)I"⟩
theorem d4_0 : decode jdk_65_method_58_code 0 = .ok (.aload_n 0, 1) := by decide +kernel
theorem d4_1 : decode jdk_65_method_58_code 1 = .ok (.arraylength, 1) := by decide +kernel
theorem d4_2 : decode jdk_65_method_58_code 2 = .ok (.iload_n 1, 1) := by decide +kernel
theorem d4_3 : decode jdk_65_method_58_code 3 = .ok (.iload_n 2, 1) := by decide +kernel
theorem d4_4 : decode jdk_65_method_58_code 4 = .ok (.invokestatic 13, 3) := by decide +kernel
theorem d4_7 : decode jdk_65_method_58_code 7 = .ok (.aload_n 0, 1) := by decide +kernel
theorem d4_8 : decode jdk_65_method_58_code 8 = .ok (.iload_n 1, 1) := by decide +kernel
theorem d4_9 : decode jdk_65_method_58_code 9 = .ok (.iload_n 2, 1) := by decide +kernel
theorem d4_10 : decode jdk_65_method_58_code 10 = .ok (.iload_n 3, 1) := by decide +kernel
theorem d4_11 : decode jdk_65_method_58_code 11 = .ok (.invokestatic 209, 3) := by decide +kernel
theorem d4_14 : decode jdk_65_method_58_code 14 = .ok (.ireturn, 1) := by decide +kernel
theorem pd4 : parseMethodDescriptor "([IIII)I" = some ⟨[(.array .int), .int, .int, .int], (some .int)⟩ := by decide +kernel
theorem pn4 : plainFor y4 = true := by first | exact plainFor_of_name (by first | (simp [plainName, overriddenIn]; done) | decide +kernel) | decide +kernel | rfl
set_option maxRecDepth 65536 in
set_option maxHeartbeats 40000000 in
theorem con_bs (l : Launch) (Z : State) (a0 : Array Value) (hw : ∀ d ∈ tables_1, d.before a0 Z = true) (h0 : Heap) (n0 : Nat) (a : Addr) (k : ClassId) (cap : Nat) (ps : List (Int32 × Nat)) (J : List Value) (A : Arv Z h0 a k .int (Int32.ofNat cap) (vc ps ++ J) (.int 0)) (hs : Srt ps) (hl : ps.length ≤ cap) (hc : cap < 1048576) (key : Int32) :
    Con l Z y4 jdk_65_method_58_code 4 ((some .int)) ({ frames := 1, cells := 0, slots := 0, locals := 19 } : Room) [] #[(.ref a), (.int (0 : Int32)), (.int (Int32.ofNat ps.length)), (.int key)] h0 n0 (fun v h => h = h0 ∧ ∃ r, v = some (.int r) ∧ BS ps key r) := by
  refine Con.of_go pn4 (ls := #[.val (.ref a), .val (.int (0 : Int32)), .val (.int (Int32.ofNat ps.length)), .val (.int key)]) (fun m => by first | (simp [entryFrame, mkF, argsToLocals, Value.category]; done) | rfl) ?_
  intro κ D
  refine Go.aloadN D (pc' := 1) d4_0 rfl rfl rfl ?_
  refine Go.alen D (pc' := 2) d4_1 rfl A ?_
  refine Go.iloadN D (pc' := 3) d4_2 rfl rfl ?_
  refine Go.iloadN D (pc' := 4) d4_3 rfl rfl ?_
  refine Go.callS D (argsL := [(.int (Int32.ofNat cap)), (.int (0 : Int32)), (.int (Int32.ofNat ps.length))]) (rest := []) (pc' := 7) (ce' := 0) (sl' := 0) (con_range l Z a0 hw h0 n0 (Int32.ofNat cap) (Int32.ofNat ps.length) (own_nn (by omega)) (fun q => absurd ((own_lt (by omega) (by omega)).mp q) (by omega))) (hw _ (List.mem_of_getElem? (i := 25) rfl)) (hw _ (List.mem_of_getElem? (i := 26) rfl)) (hw _ (List.mem_of_getElem? (i := 23) rfl)) (hw _ (List.mem_of_getElem? (i := 27) rfl)) (by decide) d4_4 rfl pd5 rfl rfl rfl (by decide) (W := 0) rfl (by decide) (by decide) (by decide) (by decide) (by decide) ?_
  intro v4 h1 q4
  obtain ⟨rfl, rfl⟩ := q4
  show Go κ h1 0 0 7 #[.val (.ref a), .val (.int (0 : Int32)), .val (.int (Int32.ofNat ps.length)), .val (.int key)] []
  refine Go.aloadN D (pc' := 8) d4_7 rfl rfl rfl ?_
  refine Go.iloadN D (pc' := 9) d4_8 rfl rfl ?_
  refine Go.iloadN D (pc' := 10) d4_9 rfl rfl ?_
  refine Go.iloadN D (pc' := 11) d4_10 rfl rfl ?_
  refine Go.callS D (argsL := [(.ref a), (.int (0 : Int32)), (.int (Int32.ofNat ps.length)), (.int key)]) (rest := []) (pc' := 14) (ce' := 0) (sl' := 0) (con_bs0 l Z a0 hw h1 n0 a k cap ps J A hs hl hc key) (hw _ (List.mem_of_getElem? (i := 28) rfl)) (hw _ (List.mem_of_getElem? (i := 29) rfl)) (hw _ (List.mem_of_getElem? (i := 23) rfl)) (hw _ (List.mem_of_getElem? (i := 30) rfl)) (by decide) d4_11 rfl pd6 rfl rfl rfl (by decide) (W := 0) rfl (by decide) (by decide) (by decide) (by decide) (by decide) ?_
  intro v11 h2 q11
  obtain ⟨rfl, r, rfl, hr⟩ := q11
  show Go κ h2 0 0 14 #[.val (.ref a), .val (.int (0 : Int32)), .val (.int (Int32.ofNat ps.length)), .val (.int key)] [(.int r)]
  refine Go.iret D rfl d4_14 (by decide) (by decide) ?_
  exact ⟨rfl, r, rfl, hr⟩
theorem own_copy {cap nl : Nat} {vs : List Value} {d : Value} (hv : vs.length = cap) : (List.replicate nl d).take 0 ++ ((List.range cap).map fun i => vs.getD (0 + i) d) ++ (List.replicate nl d).drop (0 + cap) = vs ++ List.replicate (nl - cap) d := by
  subst hv
  have h1 : ((List.range vs.length).map fun i => vs.getD (0 + i) d) = vs := by
    apply List.ext_getElem (by simp)
    intro i h1 h2
    simp [h2]
  rw [h1]; simp
abbrev y7 : MethodName := ⟨"java/util/Arrays", "copyOf", "([II)[I"⟩
theorem d7_0 : decode jdk_65_method_123_code 0 = .ok (.iload_n 1, 1) := by decide +kernel
theorem d7_1 : decode jdk_65_method_123_code 1 = .ok (.aload_n 0, 1) := by decide +kernel
theorem d7_2 : decode jdk_65_method_123_code 2 = .ok (.arraylength, 1) := by decide +kernel
theorem d7_3 : decode jdk_65_method_123_code 3 = .ok (.if_icmp .ne 11, 3) := by decide +kernel
theorem d7_6 : decode jdk_65_method_123_code 6 = .ok (.aload_n 0, 1) := by decide +kernel
theorem d7_7 : decode jdk_65_method_123_code 7 = .ok (.invokevirtual 316, 3) := by decide +kernel
theorem d7_10 : decode jdk_65_method_123_code 10 = .ok (.checkcast 317, 3) := by decide +kernel
theorem d7_13 : decode jdk_65_method_123_code 13 = .ok (.areturn, 1) := by decide +kernel
theorem d7_14 : decode jdk_65_method_123_code 14 = .ok (.iload_n 1, 1) := by decide +kernel
theorem d7_15 : decode jdk_65_method_123_code 15 = .ok (.newarray .int, 2) := by decide +kernel
theorem d7_17 : decode jdk_65_method_123_code 17 = .ok (.astore_n 2, 1) := by decide +kernel
theorem d7_18 : decode jdk_65_method_123_code 18 = .ok (.aload_n 0, 1) := by decide +kernel
theorem d7_19 : decode jdk_65_method_123_code 19 = .ok (.iconst 0, 1) := by decide +kernel
theorem d7_20 : decode jdk_65_method_123_code 20 = .ok (.aload_n 2, 1) := by decide +kernel
theorem d7_21 : decode jdk_65_method_123_code 21 = .ok (.iconst 0, 1) := by decide +kernel
theorem d7_22 : decode jdk_65_method_123_code 22 = .ok (.aload_n 0, 1) := by decide +kernel
theorem d7_23 : decode jdk_65_method_123_code 23 = .ok (.arraylength, 1) := by decide +kernel
theorem d7_24 : decode jdk_65_method_123_code 24 = .ok (.iload_n 1, 1) := by decide +kernel
theorem d7_25 : decode jdk_65_method_123_code 25 = .ok (.invokestatic 304, 3) := by decide +kernel
theorem d7_28 : decode jdk_65_method_123_code 28 = .ok (.invokestatic 150, 3) := by decide +kernel
theorem d7_31 : decode jdk_65_method_123_code 31 = .ok (.aload_n 2, 1) := by decide +kernel
theorem d7_32 : decode jdk_65_method_123_code 32 = .ok (.areturn, 1) := by decide +kernel
theorem pd7 : parseMethodDescriptor "([II)[I" = some ⟨[(.array .int), .int], (some (.array .int))⟩ := by decide +kernel
theorem pn7 : plainFor y7 = true := by first | exact plainFor_of_name (by first | (simp [plainName, overriddenIn]; done) | decide +kernel) | decide +kernel | rfl
set_option maxRecDepth 65536 in
set_option maxHeartbeats 40000000 in
theorem con_copy (l : Launch) (Z : State) (a0 : Array Value) (hw : ∀ d ∈ tables_1, d.before a0 Z = true) (h0 : Heap) (n0 : Nat) (Z0 : n0 ≤ h0.size) (a : Addr) (k : ClassId) (cap nl : Nat) (vs : List Value) (V : Arv Z h0 a k .int (Int32.ofNat cap) vs (.int 0)) (hv : vs.length = cap) (h1 : cap < nl) (h2 : nl ≤ 8) :
    Con l Z y7 jdk_65_method_123_code 3 ((some (.array .int))) ({ frames := 1, cells := 1, slots := 8, locals := 64 } : Room) [] #[(.ref a), (.int (Int32.ofNat nl))] h0 n0 (fun v h => ∃ b k', v = some (.ref b) ∧ h0.size ≤ b ∧ Ext h0 h ∧ Arv Z h b k' .int (Int32.ofNat nl) (vs ++ List.replicate (nl - cap) (.int 0)) (.int 0) ∧ Exa Z h b "[I") := by
  refine Con.of_go pn7 (ls := #[.val (.ref a), .val (.int (Int32.ofNat nl)), .unset]) (fun m => by first | (simp [entryFrame, mkF, argsToLocals, Value.category]; done) | rfl) ?_
  intro κ D
  refine Go.iloadN D (pc' := 1) d7_0 rfl rfl ?_
  refine Go.aloadN D (pc' := 2) d7_1 rfl rfl rfl ?_
  refine Go.alen D (pc' := 3) d7_2 rfl V ?_
  refine Go.icmp D (pc' := 14) (pc2 := 6) d7_3 (by decide) (by decide) rfl ?_ ?_
  · intro (hc3 : ¬ (Int32.ofNat nl) = (Int32.ofNat cap))
    refine Go.iloadN D (pc' := 15) d7_14 rfl rfl ?_
    refine Go.newPE D (pc' := 17) (aty := .int) (cap := 8) (ce' := 1) (sl' := 8) (hw _ (List.mem_of_getElem? (i := 9) rfl)) d7_15 rfl (own_nn (by omega)) (by rw [own_tn (by omega)]; omega) (by decide) (ad := "[I") (by decide) rfl rfl (by decide) (by decide) ?_
    intro h1 b kb gb E1 B1 X1
    refine Go.astoreN D (pc' := 18) d7_17 rfl rfl (ls' := #[.val (.ref a), .val (.int (Int32.ofNat nl)), .val (.ref b)]) rfl ?_
    refine Go.aloadN D (pc' := 19) d7_18 rfl rfl rfl ?_
    refine Go.iconst D (pc' := 20) d7_19 rfl (v := (0 : Int32)) rfl ?_
    refine Go.aloadN D (pc' := 21) d7_20 rfl rfl rfl ?_
    refine Go.iconst D (pc' := 22) d7_21 rfl (v := (0 : Int32)) rfl ?_
    refine Go.aloadN D (pc' := 23) d7_22 rfl rfl rfl ?_
    refine Go.alen D (pc' := 24) d7_23 rfl (V.ext E1) ?_
    refine Go.iloadN D (pc' := 25) d7_24 rfl rfl ?_
    refine Go.callS D (argsL := [(.int (Int32.ofNat cap)), (.int (Int32.ofNat nl))]) (rest := [(.int (0 : Int32)), (.ref b), (.int (0 : Int32)), (.ref a)]) (pc' := 28) (ce' := 1) (sl' := 8) (con_min l Z a0 hw h1 n0 (Int32.ofNat cap) (Int32.ofNat nl)) (hw _ (List.mem_of_getElem? (i := 40) rfl)) (hw _ (List.mem_of_getElem? (i := 41) rfl)) (hw _ (List.mem_of_getElem? (i := 42) rfl)) (hw _ (List.mem_of_getElem? (i := 43) rfl)) (by decide) d7_25 rfl pd8 rfl rfl rfl (by decide) (W := 4) rfl (by decide) (by decide) (by decide) (by decide) (by decide) ?_
    intro v25 h2 q25
    obtain ⟨rfl, r, rfl, hr⟩ := q25
    obtain rfl : r = Int32.ofNat cap := hr.elim (fun z => absurd ((own_lt (by omega) (by omega)).mp z.1) (by omega)) (fun z => z.2)
    show Go κ h2 1 8 28 #[.val (.ref a), .val (.int (Int32.ofNat nl)), .val (.ref b)] [(.int (Int32.ofNat cap)), (.int (0 : Int32)), (.ref b), (.int (0 : Int32)), (.ref a)]
    refine Go.acopy D (pc' := 31) (sN := 0) (dN := 0) (nN := cap) (hw _ (List.mem_of_getElem? (i := 44) rfl)) (hw _ (List.mem_of_getElem? (i := 34) rfl)) (hw _ (List.mem_of_getElem? (i := 32) rfl)) (hw _ (List.mem_of_getElem? (i := 33) rfl)) d7_28 rfl (V.ext E1) (B1.pad (vs' := List.replicate nl (.int 0)) (fun i => pad_rep [] (.int 0) nl i)) rfl (by decide) (by decide) (own_nn (by omega)) rfl rfl (own_tn (by omega)) (by rw [own_tn (by omega)]; omega) (by rw [own_tn (by omega)]; omega) (by simp; omega) (by omega) rfl (by decide) (W := 0) rfl (by decide) ?_
    intro h3 K3 B3
    refine Go.aloadN D (pc' := 32) d7_31 rfl rfl rfl ?_
    refine Go.aret D rfl rfl rfl d7_32 (by decide) (by decide) ?_
    refine ⟨b, kb, rfl, by omega, E1.keepN K3 (by omega), ?_⟩
    rw [own_copy hv] at B3
    exact ⟨B3, X1.keep K3⟩
  · intro (hc3 : (Int32.ofNat nl) = (Int32.ofNat cap))
    exact absurd (own_inj (by omega) (by omega) hc3) (by omega)
abbrev y1 : MethodName := ⟨"com/example/opaque_cohort/opaquecohort/CodeTally", "<init>", "()V"⟩
theorem d1_0 : decode prog_1_method_1_code 0 = .ok (.aload_n 0, 1) := by decide +kernel
theorem d1_1 : decode prog_1_method_1_code 1 = .ok (.invokespecial 1, 3) := by decide +kernel
theorem d1_4 : decode prog_1_method_1_code 4 = .ok (.aload_n 0, 1) := by decide +kernel
theorem d1_5 : decode prog_1_method_1_code 5 = .ok (.iconst 1, 1) := by decide +kernel
theorem d1_6 : decode prog_1_method_1_code 6 = .ok (.newarray .int, 2) := by decide +kernel
theorem d1_8 : decode prog_1_method_1_code 8 = .ok (.putfield 7, 3) := by decide +kernel
theorem d1_11 : decode prog_1_method_1_code 11 = .ok (.aload_n 0, 1) := by decide +kernel
theorem d1_12 : decode prog_1_method_1_code 12 = .ok (.iconst 1, 1) := by decide +kernel
theorem d1_13 : decode prog_1_method_1_code 13 = .ok (.newarray .int, 2) := by decide +kernel
theorem d1_15 : decode prog_1_method_1_code 15 = .ok (.putfield 13, 3) := by decide +kernel
theorem d1_18 : decode prog_1_method_1_code 18 = .ok (.return_, 1) := by decide +kernel
theorem pd1 : parseMethodDescriptor "()V" = some ⟨[], none⟩ := by decide +kernel
theorem pn1 : plainFor y1 = true := by first | exact plainFor_of_name (by first | (simp [plainName, overriddenIn]; done) | decide +kernel) | decide +kernel | rfl
set_option maxRecDepth 65536 in
set_option maxHeartbeats 40000000 in
theorem con_init (l : Launch) (Z : State) (a0 : Array Value) (hw : ∀ d ∈ tables_1, d.before a0 Z = true) (h0 : Heap) (n0 : Nat) (Z0 : n0 ≤ h0.size) (t : Addr) (g0 : n0 ≤ t) (F : FB Z h0 t .null .null 0 0) :
    Con l Z y1 prog_1_method_1_code 1 none ({ frames := 1, cells := 2, slots := 2, locals := 12 } : Room) [] #[(.ref t)] h0 n0 (fun v h => v = none ∧ Tal Z h n0 t 1 [] 0) := by
  refine Con.of_go pn1 (ls := #[.val (.ref t)]) (fun m => by first | (simp [entryFrame, mkF, argsToLocals, Value.category]; done) | rfl) ?_
  intro κ D
  refine Go.aloadN D (pc' := 1) d1_0 rfl rfl rfl ?_
  refine Go.initO D (pc' := 4) (hw _ (List.mem_of_getElem? (i := 6) rfl)) (hw _ (List.mem_of_getElem? (i := 7) rfl)) (hw _ (List.mem_of_getElem? (i := 8) rfl)) d1_1 rfl rfl (by decide) (W := 0) rfl (by decide) ?_
  refine Go.aloadN D (pc' := 5) d1_4 rfl rfl rfl ?_
  refine Go.iconst D (pc' := 6) d1_5 rfl (v := (1 : Int32)) rfl ?_
  refine Go.newPE D (pc' := 8) (aty := .int) (cap := 1) (ce' := 1) (sl' := 1) (hw _ (List.mem_of_getElem? (i := 9) rfl)) d1_6 rfl (by decide) (by decide) (by decide) (ad := "[I") (by decide) rfl rfl (by decide) (by decide) ?_
  intro h1 ca ka gca E1 C1 X1
  refine Go.putF D (pc' := 11) (hw _ (List.mem_of_getElem? (i := 10) rfl)) d1_8 rfl (F.ext E1).2.1 (F.ext E1).1 (Or.inl (hw _ (List.mem_of_getElem? (i := 11) rfl))) (hw _ (List.mem_of_getElem? (i := 1) rfl)) (ty := (.array .int)) (by decide) rfl rfl g0 ?_
  intro h2 W2
  refine Go.aloadN D (pc' := 12) d1_11 rfl rfl rfl ?_
  refine Go.iconst D (pc' := 13) d1_12 rfl (v := (1 : Int32)) rfl ?_
  refine Go.newP D (pc' := 15) (aty := .int) (cap := 1) (ce' := 2) (sl' := 2) (hw _ (List.mem_of_getElem? (i := 9) rfl)) d1_13 rfl (by decide) (by decide) (by decide) rfl rfl (by decide) (by decide) ?_
  intro h3 na kb gna E3 N3
  refine Go.putF D (pc' := 18) (hw _ (List.mem_of_getElem? (i := 12) rfl)) d1_15 rfl (((F.ext E1).set_codes hw W2).ext E3).2.2.1 (((F.ext E1).set_codes hw W2).ext E3).1 (Or.inl (hw _ (List.mem_of_getElem? (i := 13) rfl))) (hw _ (List.mem_of_getElem? (i := 1) rfl)) (ty := (.array .int)) (by decide) rfl rfl g0 ?_
  intro h4 W4
  refine Go.vret D rfl d1_18 (by decide) (by decide) ?_
  have q1 := own_ltn F.1.lt
  have q2 := W2.size
  have q3 := E1.1
  have q4 : ca < h1.size := C1.lt
  have nc : ca ≠ t := own_ne (by omega)
  have nn : na ≠ t := own_ne (by omega)
  have ncn : ca ≠ na := own_ne (by omega)
  refine ⟨rfl, ca, na, ka, kb, [.int 0], [.int 0], (((F.ext E1).set_codes hw W2).ext E3).set_counts hw W4, ?_, ?_, rfl, rfl, ncn, nc, nn, g0, by omega, by omega, (((X1.wr W2).ext E3).wr W4)⟩
  · exact ((C1.other W2 nc).ext E3).other W4 nc |>.pad (fun i => pad_rep [] (.int 0) 1 i)
  · exact (N3.other W4 nn).pad (fun i => pad_rep [] (.int 0) 1 i)
abbrev y3 : MethodName := ⟨"com/example/opaque_cohort/opaquecohort/CodeTally", "add", "(I)V"⟩
theorem d3_0 : decode prog_1_method_2_code 0 = .ok (.aload_n 0, 1) := by decide +kernel
theorem d3_1 : decode prog_1_method_2_code 1 = .ok (.getfield 7, 3) := by decide +kernel
theorem d3_4 : decode prog_1_method_2_code 4 = .ok (.iconst 0, 1) := by decide +kernel
theorem d3_5 : decode prog_1_method_2_code 5 = .ok (.aload_n 0, 1) := by decide +kernel
theorem d3_6 : decode prog_1_method_2_code 6 = .ok (.getfield 16, 3) := by decide +kernel
theorem d3_9 : decode prog_1_method_2_code 9 = .ok (.iload_n 1, 1) := by decide +kernel
theorem d3_10 : decode prog_1_method_2_code 10 = .ok (.invokestatic 20, 3) := by decide +kernel
theorem d3_13 : decode prog_1_method_2_code 13 = .ok (.istore_n 2, 1) := by decide +kernel
theorem d3_14 : decode prog_1_method_2_code 14 = .ok (.iload_n 2, 1) := by decide +kernel
theorem d3_15 : decode prog_1_method_2_code 15 = .ok (.ifCond .lt 16, 3) := by decide +kernel
theorem d3_18 : decode prog_1_method_2_code 18 = .ok (.aload_n 0, 1) := by decide +kernel
theorem d3_19 : decode prog_1_method_2_code 19 = .ok (.getfield 13, 3) := by decide +kernel
theorem d3_22 : decode prog_1_method_2_code 22 = .ok (.iload_n 2, 1) := by decide +kernel
theorem d3_23 : decode prog_1_method_2_code 23 = .ok (.dup2, 1) := by decide +kernel
theorem d3_24 : decode prog_1_method_2_code 24 = .ok (.iaload, 1) := by decide +kernel
theorem d3_25 : decode prog_1_method_2_code 25 = .ok (.iconst 1, 1) := by decide +kernel
theorem d3_26 : decode prog_1_method_2_code 26 = .ok (.iadd, 1) := by decide +kernel
theorem d3_27 : decode prog_1_method_2_code 27 = .ok (.iastore, 1) := by decide +kernel
theorem d3_28 : decode prog_1_method_2_code 28 = .ok (.goto 138, 3) := by decide +kernel
theorem d3_31 : decode prog_1_method_2_code 31 = .ok (.iload_n 2, 1) := by decide +kernel
theorem d3_32 : decode prog_1_method_2_code 32 = .ok (.ineg, 1) := by decide +kernel
theorem d3_33 : decode prog_1_method_2_code 33 = .ok (.iconst 1, 1) := by decide +kernel
theorem d3_34 : decode prog_1_method_2_code 34 = .ok (.isub, 1) := by decide +kernel
theorem d3_35 : decode prog_1_method_2_code 35 = .ok (.istore_n 3, 1) := by decide +kernel
theorem d3_36 : decode prog_1_method_2_code 36 = .ok (.aload_n 0, 1) := by decide +kernel
theorem d3_37 : decode prog_1_method_2_code 37 = .ok (.getfield 16, 3) := by decide +kernel
theorem d3_40 : decode prog_1_method_2_code 40 = .ok (.aload_n 0, 1) := by decide +kernel
theorem d3_41 : decode prog_1_method_2_code 41 = .ok (.getfield 7, 3) := by decide +kernel
theorem d3_44 : decode prog_1_method_2_code 44 = .ok (.arraylength, 1) := by decide +kernel
theorem d3_45 : decode prog_1_method_2_code 45 = .ok (.if_icmp .ne 37, 3) := by decide +kernel
theorem d3_48 : decode prog_1_method_2_code 48 = .ok (.aload_n 0, 1) := by decide +kernel
theorem d3_49 : decode prog_1_method_2_code 49 = .ok (.aload_n 0, 1) := by decide +kernel
theorem d3_50 : decode prog_1_method_2_code 50 = .ok (.getfield 7, 3) := by decide +kernel
theorem d3_53 : decode prog_1_method_2_code 53 = .ok (.iconst 2, 1) := by decide +kernel
theorem d3_54 : decode prog_1_method_2_code 54 = .ok (.aload_n 0, 1) := by decide +kernel
theorem d3_55 : decode prog_1_method_2_code 55 = .ok (.getfield 16, 3) := by decide +kernel
theorem d3_58 : decode prog_1_method_2_code 58 = .ok (.imul, 1) := by decide +kernel
theorem d3_59 : decode prog_1_method_2_code 59 = .ok (.invokestatic 26, 3) := by decide +kernel
theorem d3_62 : decode prog_1_method_2_code 62 = .ok (.putfield 7, 3) := by decide +kernel
theorem d3_65 : decode prog_1_method_2_code 65 = .ok (.aload_n 0, 1) := by decide +kernel
theorem d3_66 : decode prog_1_method_2_code 66 = .ok (.aload_n 0, 1) := by decide +kernel
theorem d3_67 : decode prog_1_method_2_code 67 = .ok (.getfield 13, 3) := by decide +kernel
theorem d3_70 : decode prog_1_method_2_code 70 = .ok (.iconst 2, 1) := by decide +kernel
theorem d3_71 : decode prog_1_method_2_code 71 = .ok (.aload_n 0, 1) := by decide +kernel
theorem d3_72 : decode prog_1_method_2_code 72 = .ok (.getfield 16, 3) := by decide +kernel
theorem d3_75 : decode prog_1_method_2_code 75 = .ok (.imul, 1) := by decide +kernel
theorem d3_76 : decode prog_1_method_2_code 76 = .ok (.invokestatic 26, 3) := by decide +kernel
theorem d3_79 : decode prog_1_method_2_code 79 = .ok (.putfield 13, 3) := by decide +kernel
theorem d3_82 : decode prog_1_method_2_code 82 = .ok (.aload_n 0, 1) := by decide +kernel
theorem d3_83 : decode prog_1_method_2_code 83 = .ok (.getfield 7, 3) := by decide +kernel
theorem d3_86 : decode prog_1_method_2_code 86 = .ok (.iload_n 3, 1) := by decide +kernel
theorem d3_87 : decode prog_1_method_2_code 87 = .ok (.aload_n 0, 1) := by decide +kernel
theorem d3_88 : decode prog_1_method_2_code 88 = .ok (.getfield 7, 3) := by decide +kernel
theorem d3_91 : decode prog_1_method_2_code 91 = .ok (.iload_n 3, 1) := by decide +kernel
theorem d3_92 : decode prog_1_method_2_code 92 = .ok (.iconst 1, 1) := by decide +kernel
theorem d3_93 : decode prog_1_method_2_code 93 = .ok (.iadd, 1) := by decide +kernel
theorem d3_94 : decode prog_1_method_2_code 94 = .ok (.aload_n 0, 1) := by decide +kernel
theorem d3_95 : decode prog_1_method_2_code 95 = .ok (.getfield 16, 3) := by decide +kernel
theorem d3_98 : decode prog_1_method_2_code 98 = .ok (.iload_n 3, 1) := by decide +kernel
theorem d3_99 : decode prog_1_method_2_code 99 = .ok (.isub, 1) := by decide +kernel
theorem d3_100 : decode prog_1_method_2_code 100 = .ok (.invokestatic 30, 3) := by decide +kernel
theorem d3_103 : decode prog_1_method_2_code 103 = .ok (.aload_n 0, 1) := by decide +kernel
theorem d3_104 : decode prog_1_method_2_code 104 = .ok (.getfield 13, 3) := by decide +kernel
theorem d3_107 : decode prog_1_method_2_code 107 = .ok (.iload_n 3, 1) := by decide +kernel
theorem d3_108 : decode prog_1_method_2_code 108 = .ok (.aload_n 0, 1) := by decide +kernel
theorem d3_109 : decode prog_1_method_2_code 109 = .ok (.getfield 13, 3) := by decide +kernel
theorem d3_112 : decode prog_1_method_2_code 112 = .ok (.iload_n 3, 1) := by decide +kernel
theorem d3_113 : decode prog_1_method_2_code 113 = .ok (.iconst 1, 1) := by decide +kernel
theorem d3_114 : decode prog_1_method_2_code 114 = .ok (.iadd, 1) := by decide +kernel
theorem d3_115 : decode prog_1_method_2_code 115 = .ok (.aload_n 0, 1) := by decide +kernel
theorem d3_116 : decode prog_1_method_2_code 116 = .ok (.getfield 16, 3) := by decide +kernel
theorem d3_119 : decode prog_1_method_2_code 119 = .ok (.iload_n 3, 1) := by decide +kernel
theorem d3_120 : decode prog_1_method_2_code 120 = .ok (.isub, 1) := by decide +kernel
theorem d3_121 : decode prog_1_method_2_code 121 = .ok (.invokestatic 30, 3) := by decide +kernel
theorem d3_124 : decode prog_1_method_2_code 124 = .ok (.aload_n 0, 1) := by decide +kernel
theorem d3_125 : decode prog_1_method_2_code 125 = .ok (.getfield 7, 3) := by decide +kernel
theorem d3_128 : decode prog_1_method_2_code 128 = .ok (.iload_n 3, 1) := by decide +kernel
theorem d3_129 : decode prog_1_method_2_code 129 = .ok (.iload_n 1, 1) := by decide +kernel
theorem d3_130 : decode prog_1_method_2_code 130 = .ok (.iastore, 1) := by decide +kernel
theorem d3_131 : decode prog_1_method_2_code 131 = .ok (.aload_n 0, 1) := by decide +kernel
theorem d3_132 : decode prog_1_method_2_code 132 = .ok (.getfield 13, 3) := by decide +kernel
theorem d3_135 : decode prog_1_method_2_code 135 = .ok (.iload_n 3, 1) := by decide +kernel
theorem d3_136 : decode prog_1_method_2_code 136 = .ok (.iconst 1, 1) := by decide +kernel
theorem d3_137 : decode prog_1_method_2_code 137 = .ok (.iastore, 1) := by decide +kernel
theorem d3_138 : decode prog_1_method_2_code 138 = .ok (.aload_n 0, 1) := by decide +kernel
theorem d3_139 : decode prog_1_method_2_code 139 = .ok (.dup, 1) := by decide +kernel
theorem d3_140 : decode prog_1_method_2_code 140 = .ok (.getfield 16, 3) := by decide +kernel
theorem d3_143 : decode prog_1_method_2_code 143 = .ok (.iconst 1, 1) := by decide +kernel
theorem d3_144 : decode prog_1_method_2_code 144 = .ok (.iadd, 1) := by decide +kernel
theorem d3_145 : decode prog_1_method_2_code 145 = .ok (.putfield 16, 3) := by decide +kernel
theorem d3_148 : decode prog_1_method_2_code 148 = .ok (.iload_n 1, 1) := by decide +kernel
theorem d3_149 : decode prog_1_method_2_code 149 = .ok (.bipush 64, 2) := by decide +kernel
theorem d3_151 : decode prog_1_method_2_code 151 = .ok (.if_icmp .ge 15, 3) := by decide +kernel
theorem d3_154 : decode prog_1_method_2_code 154 = .ok (.aload_n 0, 1) := by decide +kernel
theorem d3_155 : decode prog_1_method_2_code 155 = .ok (.dup, 1) := by decide +kernel
theorem d3_156 : decode prog_1_method_2_code 156 = .ok (.getfield 38, 3) := by decide +kernel
theorem d3_159 : decode prog_1_method_2_code 159 = .ok (.lconst 1, 1) := by decide +kernel
theorem d3_160 : decode prog_1_method_2_code 160 = .ok (.iload_n 1, 1) := by decide +kernel
theorem d3_161 : decode prog_1_method_2_code 161 = .ok (.lshl, 1) := by decide +kernel
theorem d3_162 : decode prog_1_method_2_code 162 = .ok (.lor, 1) := by decide +kernel
theorem d3_163 : decode prog_1_method_2_code 163 = .ok (.putfield 38, 3) := by decide +kernel
theorem d3_166 : decode prog_1_method_2_code 166 = .ok (.return_, 1) := by decide +kernel
theorem pd3 : parseMethodDescriptor "(I)V" = some ⟨[.int], none⟩ := by decide +kernel
theorem pn3 : plainFor y3 = true := by first | exact plainFor_of_name (by first | (simp [plainName, overriddenIn]; done) | decide +kernel) | decide +kernel | rfl
set_option maxRecDepth 65536 in
set_option maxHeartbeats 40000000 in
theorem con_add (l : Launch) (Z : State) (a0 : Array Value) (hw : ∀ d ∈ tables_1, d.before a0 Z = true) (h0 : Heap) (n0 : Nat) (Z0 : n0 ≤ h0.size) (t : Addr) (a : Int32) (cap N : Nat) (ps : List (Int32 × Nat)) (fc : Int64) (T : Tal Z h0 n0 t cap ps fc) (hs : Srt ps) (hc : Cts N ps) (hN : N ≤ 3) (hcap : cap ≤ 2 * N + 1) (hcap0 : 0 < cap) :
    Con l Z y3 prog_1_method_2_code 4 none ({ frames := 2, cells := 2, slots := 16, locals := 100 } : Room) [] #[(.ref t), (.int a)] h0 n0 (fun v h => v = none ∧ ∃ cap' ps' fc', Tal Z h n0 t cap' ps' fc' ∧ Srt ps' ∧ Cts (N + 1) ps' ∧ (∀ x, cnt ps' x = cnt ps x + if a = x then 1 else 0) ∧ (0 < cap' ∧ cap' ≤ 2 * (N + 1) + 1) ∧ FcA (cnt ps a) a fc fc') := by
  refine Con.of_go pn3 (ls := #[.val (.ref t), .val (.int a), .unset, .unset]) (fun m => by first | (simp [entryFrame, mkF, argsToLocals, Value.category]; done) | rfl) ?_
  intro κ D
  obtain ⟨ca, na, ka, kb, jc, jn, F, Ac, An, hjc, hjn, ncn, nc, nn, gt, gc, gn, xa⟩ := T
  have hlen := hc.1
  refine Go.aloadN D (pc' := 1) d3_0 rfl rfl rfl ?_
  refine Go.getF D (pc' := 4) (hw _ (List.mem_of_getElem? (i := 10) rfl)) d3_1 rfl F.2.1 ?_
  refine Go.iconst D (pc' := 5) d3_4 rfl (v := (0 : Int32)) rfl ?_
  refine Go.aloadN D (pc' := 6) d3_5 rfl rfl rfl ?_
  refine Go.getF D (pc' := 9) (hw _ (List.mem_of_getElem? (i := 19) rfl)) d3_6 rfl F.2.2.2.1 ?_
  refine Go.iloadN D (pc' := 10) d3_9 rfl rfl ?_
  refine Go.callS D (argsL := [(.ref ca), (.int (0 : Int32)), (.int (Int32.ofNat ps.length)), (.int a)]) (rest := []) (pc' := 13) (ce' := 0) (sl' := 0) (con_bs l Z a0 hw h0 n0 ca ka cap ps jc Ac hs (by omega) (by omega) a) (hw _ (List.mem_of_getElem? (i := 21) rfl)) (hw _ (List.mem_of_getElem? (i := 22) rfl)) (hw _ (List.mem_of_getElem? (i := 23) rfl)) (hw _ (List.mem_of_getElem? (i := 24) rfl)) (by decide) d3_10 rfl pd4 rfl rfl rfl (by decide) (W := 0) rfl (by decide) (by decide) (by decide) (by decide) (by decide) ?_
  intro v10 h1 q10
  obtain ⟨rfl, r, rfl, hr⟩ := q10
  show Go κ h1 0 0 13 #[.val (.ref t), .val (.int a), .unset, .unset] [(.int r)]
  rcases hr with ⟨A, n, B, rfl, rfl⟩ | hr0
  · skip
    have hA : A.length < cap := by simp at hjc; omega
    refine Go.istoreN D (pc' := 14) d3_13 rfl (ls' := #[.val (.ref t), .val (.int a), .val (.int (Int32.ofNat A.length)), .unset]) rfl ?_
    refine Go.iloadN D (pc' := 15) d3_14 rfl rfl ?_
    refine Go.ifc D (pc' := 31) (pc2 := 18) d3_15 (by decide) (by decide) rfl ?_ ?_
    · intro (hc15 : (Int32.ofNat A.length) < 0)
      exact absurd hc15 (own_nn (by omega))
    · intro (hc15 : ¬ (Int32.ofNat A.length) < 0)
      refine Go.aloadN D (pc' := 19) d3_18 rfl rfl rfl ?_
      refine Go.getF D (pc' := 22) (hw _ (List.mem_of_getElem? (i := 12) rfl)) d3_19 rfl F.2.2.1 ?_
      refine Go.iloadN D (pc' := 23) d3_22 rfl rfl ?_
      refine Go.dup2 D (pc' := 24) d3_23 rfl rfl rfl ?_
      refine Go.iaload D (pc' := 25) d3_24 rfl An (own_nn (by omega)) ((own_lt (by omega) (by omega)).mpr hA) (v := .int (Int32.ofNat n)) (by rw [own_tn (by omega)]; exact vn_at) ?_
      refine Go.iconst D (pc' := 26) d3_25 rfl (v := (1 : Int32)) rfl ?_
      refine Go.iadd D (pc' := 27) d3_26 rfl  ?_
      refine Go.iastore D (pc' := 28) (i := A.length) d3_27 rfl An (own_nn (by omega)) ((own_lt (by omega) (by omega)).mpr hA) (own_tn (by omega)) (by simp [vn] <;> omega) gn  ?_
      intro h2 K2 N2
      refine Go.goto D (pc' := 166) d3_28 (by decide) (by decide) ?_
      refine Go.vret D rfl d3_166 (by decide) (by decide) ?_
      have hn := hc.2 (a, n) (by simp)
      refine ⟨rfl, cap, A ++ (a, n + 1) :: B, fc, ⟨ca, na, ka, kb, jc, jn, ?_, ?_, ?_, ?_, ?_, ncn, nc, nn, gt, gc, gn, xa.keep K2⟩, set_srt hs, ?_, ?_, ?_, ?_⟩
      · have F2 := F.keep K2 (nin1 (Ne.symm nn))
        simpa using F2
      · have C2 := Ac.keep K2 (nin1 ncn)
        simpa [vc] using C2
      · rw [own_succ] at N2
        simpa [vn] using N2
      · simpa using hjc
      · simpa using hjn
      · refine ⟨by simp at hlen ⊢; omega, fun p hp => ?_⟩
        rcases List.mem_append.mp hp with hp | hp
        · have := hc.2 p (by simp [hp]); omega
        · rcases List.mem_cons.mp hp with rfl | hp
          · dsimp only at hn ⊢; omega
          · have := hc.2 p (by simp [hp]); omega
      · intro x
        simp only [cnt_app, cnt]
        split <;> omega
      · exact ⟨hcap0, by omega⟩
      · exact Or.inl ⟨by simp only [cnt_app, cnt, if_true]; omega, rfl⟩
  · skip
    have hz := bs_cnt hr0
    obtain ⟨A, B, rfl, hA, hB, rfl⟩ := hr0
    have hAB : (A ++ B).length - A.length = B.length := by simp
    have hAB2 : (A ++ B).length = A.length + B.length := by simp
    have J82 : ∀ (h2 : Heap) (cb nb : Addr) (ka' kb' : ClassId) (jc' jn' : List Value) (cap' : Nat), FB Z h2 t (.ref cb) (.ref nb) (Int32.ofNat (A ++ B).length) fc → Arv Z h2 cb ka' .int (Int32.ofNat cap') (vc (A ++ B) ++ jc') (.int 0) → Arv Z h2 nb kb' .int (Int32.ofNat cap') (vn (A ++ B) ++ jn') (.int 0) → (A ++ B).length + jc'.length = cap' → (A ++ B).length + jn'.length = cap' → cb ≠ nb → cb ≠ t → nb ≠ t → n0 ≤ cb → n0 ≤ nb → (A ++ B).length < cap' → cap' ≤ 2 * (N + 1) + 1 → Exa Z h2 cb "[I" → Go κ h2 2 16 82 #[.val (.ref t), .val (.int a), .val (.int (-(Int32.ofNat A.length + (1 : Int32)))), .val (.int (Int32.ofNat A.length))] [] := by
      intro h2 cb nb ka' kb' jc' jn' cap' F2 C2 N2 hj1 hj2 ncnb ncb nnb gcb gnb hlt hcap' X2
      obtain ⟨j1, J1, ej1⟩ : ∃ j J, jc' = j :: J := by
        cases jc' with
        | nil => simp at hj1; simp at hlt; omega
        | cons j J => exact ⟨j, J, rfl⟩
      obtain ⟨j2, J2, ej2⟩ : ∃ j J, jn' = j :: J := by
        cases jn' with
        | nil => simp at hj2; simp at hlt; omega
        | cons j J => exact ⟨j, J, rfl⟩
      subst ej1
      subst ej2
      refine Go.aloadN D (pc' := 83) d3_82 rfl rfl rfl ?_
      refine Go.getF D (pc' := 86) (hw _ (List.mem_of_getElem? (i := 10) rfl)) d3_83 rfl F2.2.1 ?_
      refine Go.iloadN D (pc' := 87) d3_86 rfl rfl ?_
      refine Go.aloadN D (pc' := 88) d3_87 rfl rfl rfl ?_
      refine Go.getF D (pc' := 91) (hw _ (List.mem_of_getElem? (i := 10) rfl)) d3_88 rfl F2.2.1 ?_
      refine Go.iloadN D (pc' := 92) d3_91 rfl rfl ?_
      refine Go.iconst D (pc' := 93) d3_92 rfl (v := (1 : Int32)) rfl ?_
      refine Go.iadd D (pc' := 94) d3_93 rfl  ?_
      refine Go.aloadN D (pc' := 95) d3_94 rfl rfl rfl ?_
      refine Go.getF D (pc' := 98) (hw _ (List.mem_of_getElem? (i := 19) rfl)) d3_95 rfl F2.2.2.2.1 ?_
      refine Go.iloadN D (pc' := 99) d3_98 rfl rfl ?_
      refine Go.isub D (pc' := 100) d3_99 rfl  ?_
      rw [own_succ, own_sub (by omega) (by omega), hAB]
      refine Go.acopy D (pc' := 103) (sN := A.length) (dN := (A.length + 1)) (nN := B.length) (hw _ (List.mem_of_getElem? (i := 31) rfl)) (hw _ (List.mem_of_getElem? (i := 34) rfl)) (hw _ (List.mem_of_getElem? (i := 32) rfl)) (hw _ (List.mem_of_getElem? (i := 33) rfl)) d3_100 rfl C2 C2 rfl (own_nn (by omega)) (own_nn (by omega)) (own_nn (by omega)) (own_tn (by omega)) (own_tn (by omega)) (own_tn (by omega)) (by rw [own_tn (by omega)]; omega) (by rw [own_tn (by omega)]; omega) (by simp [vc, vn] <;> omega) gcb rfl (by decide) (W := 0) rfl (by decide) ?_
      intro h3 K3 C3
      refine Go.aloadN D (pc' := 104) d3_103 rfl rfl rfl ?_
      refine Go.getF D (pc' := 107) (hw _ (List.mem_of_getElem? (i := 12) rfl)) d3_104 rfl (F2.keep K3 (nin1 (Ne.symm ncb))).2.2.1 ?_
      refine Go.iloadN D (pc' := 108) d3_107 rfl rfl ?_
      refine Go.aloadN D (pc' := 109) d3_108 rfl rfl rfl ?_
      refine Go.getF D (pc' := 112) (hw _ (List.mem_of_getElem? (i := 12) rfl)) d3_109 rfl (F2.keep K3 (nin1 (Ne.symm ncb))).2.2.1 ?_
      refine Go.iloadN D (pc' := 113) d3_112 rfl rfl ?_
      refine Go.iconst D (pc' := 114) d3_113 rfl (v := (1 : Int32)) rfl ?_
      refine Go.iadd D (pc' := 115) d3_114 rfl  ?_
      refine Go.aloadN D (pc' := 116) d3_115 rfl rfl rfl ?_
      refine Go.getF D (pc' := 119) (hw _ (List.mem_of_getElem? (i := 19) rfl)) d3_116 rfl (F2.keep K3 (nin1 (Ne.symm ncb))).2.2.2.1 ?_
      refine Go.iloadN D (pc' := 120) d3_119 rfl rfl ?_
      refine Go.isub D (pc' := 121) d3_120 rfl  ?_
      rw [own_succ, own_sub (by omega) (by omega), hAB]
      refine Go.acopy D (pc' := 124) (sN := A.length) (dN := (A.length + 1)) (nN := B.length) (hw _ (List.mem_of_getElem? (i := 31) rfl)) (hw _ (List.mem_of_getElem? (i := 34) rfl)) (hw _ (List.mem_of_getElem? (i := 32) rfl)) (hw _ (List.mem_of_getElem? (i := 33) rfl)) d3_121 rfl (N2.keep K3 (nin1 (Ne.symm ncnb))) (N2.keep K3 (nin1 (Ne.symm ncnb))) rfl (own_nn (by omega)) (own_nn (by omega)) (own_nn (by omega)) (own_tn (by omega)) (own_tn (by omega)) (own_tn (by omega)) (by rw [own_tn (by omega)]; omega) (by rw [own_tn (by omega)]; omega) (by simp [vc, vn] <;> omega) gnb rfl (by decide) (W := 0) rfl (by decide) ?_
      intro h4 K4 N4
      have F4 := (F2.keep K3 (nin1 (Ne.symm ncb))).keep K4 (nin1 (Ne.symm nnb))
      have C4 := C3.keep K4 (nin1 ncnb)
      refine Go.aloadN D (pc' := 125) d3_124 rfl rfl rfl ?_
      refine Go.getF D (pc' := 128) (hw _ (List.mem_of_getElem? (i := 10) rfl)) d3_125 rfl F4.2.1 ?_
      refine Go.iloadN D (pc' := 129) d3_128 rfl rfl ?_
      refine Go.iloadN D (pc' := 130) d3_129 rfl rfl ?_
      refine Go.iastore D (pc' := 131) (i := A.length) d3_130 rfl C4 (own_nn (by omega)) ((own_lt (by omega) (by omega)).mpr (by omega)) (own_tn (by omega)) (by simp [vc] <;> omega) gcb  ?_
      intro h5 K5 C5
      refine Go.aloadN D (pc' := 132) d3_131 rfl rfl rfl ?_
      refine Go.getF D (pc' := 135) (hw _ (List.mem_of_getElem? (i := 12) rfl)) d3_132 rfl (F4.keep K5 (nin1 (Ne.symm ncb))).2.2.1 ?_
      refine Go.iloadN D (pc' := 136) d3_135 rfl rfl ?_
      refine Go.iconst D (pc' := 137) d3_136 rfl (v := (1 : Int32)) rfl ?_
      refine Go.iastore D (pc' := 138) (i := A.length) d3_137 rfl (N4.keep K5 (nin1 (Ne.symm ncnb))) (own_nn (by omega)) ((own_lt (by omega) (by omega)).mpr (by omega)) (own_tn (by omega)) (by simp [vn] <;> omega) gnb  ?_
      intro h6 K6 N6
      have F6 := (F4.keep K5 (nin1 (Ne.symm ncb))).keep K6 (nin1 (Ne.symm nnb))
      have C6 := C5.keep K6 (nin1 ncnb)
      refine Go.aloadN D (pc' := 139) d3_138 rfl rfl rfl ?_
      refine Go.dup D (pc' := 140) d3_139 rfl rfl ?_
      refine Go.getF D (pc' := 143) (hw _ (List.mem_of_getElem? (i := 19) rfl)) d3_140 rfl F6.2.2.2.1 ?_
      refine Go.iconst D (pc' := 144) d3_143 rfl (v := (1 : Int32)) rfl ?_
      refine Go.iadd D (pc' := 145) d3_144 rfl  ?_
      rw [own_succ]
      refine Go.putF D (pc' := 148) (hw _ (List.mem_of_getElem? (i := 19) rfl)) d3_145 rfl F6.2.2.2.1 F6.1 (Or.inl (hw _ (List.mem_of_getElem? (i := 20) rfl))) (hw _ (List.mem_of_getElem? (i := 1) rfl)) (ty := .int) (by decide) rfl rfl gt ?_
      intro h7 W7
      have F7 := F6.set_distinct hw W7
      have X7 := (((((X2.keep K3).keep K4).keep K5).keep K6).wr W7)
      have C7 := C6.other W7 ncb
      have N7 := N6.other W7 nnb
      simp only [vc, vn, List.map_append] at C7 N7
      have C8 : Arv Z h7 cb ka' .int (Int32.ofNat cap') (vc (A ++ (a, 1) :: B) ++ J1) (.int 0) := by
        have e := ins_list (A := A.map fun p => Value.int p.1) (B := B.map fun p => Value.int p.1) (j := j1) (J := J1) (dv := .int 0) (c := .int a)
        simp only [List.length_map] at e
        rw [e] at C7
        simpa [vc] using C7
      have N8 : Arv Z h7 nb kb' .int (Int32.ofNat cap') (vn (A ++ (a, 1) :: B) ++ J2) (.int 0) := by
        have e := ins_list (A := A.map fun p => Value.int (Int32.ofNat p.2)) (B := B.map fun p => Value.int (Int32.ofNat p.2)) (j := j2) (J := J2) (dv := .int 0) (c := .int 1)
        simp only [List.length_map] at e
        rw [e] at N7
        simpa [vn] using N7
      refine Go.iloadN D (pc' := 149) d3_148 rfl rfl ?_
      refine Go.bipush D (pc' := 151) d3_149 rfl (v := (64 : Int32)) rfl ?_
      refine Go.icmp D (pc' := 166) (pc2 := 154) d3_151 (by decide) (by decide) rfl ?_ ?_
      · intro (hc151 : ¬ a < (64 : Int32))
        refine Go.vret D rfl d3_166 (by decide) (by decide) ?_
        refine ⟨rfl, cap', A ++ (a, 1) :: B, _, ⟨cb, nb, ka', kb', J1, J2, ?_, C8, N8, ?_, ?_, ncnb, ncb, nnb, gt, gcb, gnb, X7⟩, ins_srt hs hA hB, ?_, ?_, ⟨by omega, hcap'⟩, Or.inr ⟨hz, Or.inl ⟨hc151, rfl⟩⟩⟩
        · have e : (A ++ (a, 1) :: B).length = (A ++ B).length + 1 := by simp <;> omega
          rw [e]; exact F7
        · simp at hj1 ⊢; omega
        · simp at hj2 ⊢; omega
        · refine ⟨by simp at hlen ⊢; omega, fun p hp => ?_⟩
          rcases List.mem_append.mp hp with hp | hp
          · have := hc.2 p (by simp [hp]); omega
          · rcases List.mem_cons.mp hp with rfl | hp
            · dsimp only; omega
            · have := hc.2 p (by simp [hp]); omega
        · intro x
          simp only [cnt_app, cnt]
          split <;> omega
      · intro (hc151 : a < (64 : Int32))
        refine Go.aloadN D (pc' := 155) d3_154 rfl rfl rfl ?_
        refine Go.dup D (pc' := 156) d3_155 rfl rfl ?_
        refine Go.getF D (pc' := 159) (hw _ (List.mem_of_getElem? (i := 35) rfl)) d3_156 rfl F7.2.2.2.2 ?_
        refine Go.lconst D (pc' := 160) d3_159 rfl (v := (1 : Int64)) rfl ?_
        refine Go.iloadN D (pc' := 161) d3_160 rfl rfl ?_
        refine Go.lshl D (pc' := 162) d3_161 rfl  ?_
        refine Go.lor D (pc' := 163) d3_162 rfl  ?_
        refine Go.putF D (pc' := 166) (hw _ (List.mem_of_getElem? (i := 35) rfl)) d3_163 rfl F7.2.2.2.2 F7.1 (Or.inl (hw _ (List.mem_of_getElem? (i := 36) rfl))) (hw _ (List.mem_of_getElem? (i := 1) rfl)) (ty := .long) (by decide) rfl rfl gt ?_
        intro h8 W8
        refine Go.vret D rfl d3_166 (by decide) (by decide) ?_
        refine ⟨rfl, cap', A ++ (a, 1) :: B, _, ⟨cb, nb, ka', kb', J1, J2, ?_, (C8.other W8 ncb), (N8.other W8 nnb), ?_, ?_, ncnb, ncb, nnb, gt, gcb, gnb, (X7.wr W8)⟩, ins_srt hs hA hB, ?_, ?_, ⟨by omega, hcap'⟩, Or.inr ⟨hz, Or.inr ⟨hc151, rfl⟩⟩⟩
        · have e : (A ++ (a, 1) :: B).length = (A ++ B).length + 1 := by simp <;> omega
          rw [e]; exact (F7.set_firstCodes hw W8)
        · simp at hj1 ⊢; omega
        · simp at hj2 ⊢; omega
        · refine ⟨by simp at hlen ⊢; omega, fun p hp => ?_⟩
          rcases List.mem_append.mp hp with hp | hp
          · have := hc.2 p (by simp [hp]); omega
          · rcases List.mem_cons.mp hp with rfl | hp
            · dsimp only; omega
            · have := hc.2 p (by simp [hp]); omega
        · intro x
          simp only [cnt_app, cnt]
          split <;> omega
    refine Go.istoreN D (pc' := 14) d3_13 rfl (ls' := #[.val (.ref t), .val (.int a), .val (.int (-(Int32.ofNat A.length + (1 : Int32)))), .unset]) rfl ?_
    refine Go.iloadN D (pc' := 15) d3_14 rfl rfl ?_
    refine Go.ifc D (pc' := 31) (pc2 := 18) d3_15 (by decide) (by decide) rfl ?_ ?_
    · intro (hc15 : (-(Int32.ofNat A.length + (1 : Int32))) < 0)
      refine Go.iloadN D (pc' := 32) d3_31 rfl rfl ?_
      refine Go.ineg D (pc' := 33) d3_32 rfl  ?_
      refine Go.iconst D (pc' := 34) d3_33 rfl (v := (1 : Int32)) rfl ?_
      refine Go.isub D (pc' := 35) d3_34 rfl  ?_
      rw [own_undo]
      refine Go.istoreN D (pc' := 36) d3_35 rfl (ls' := #[.val (.ref t), .val (.int a), .val (.int (-(Int32.ofNat A.length + (1 : Int32)))), .val (.int (Int32.ofNat A.length))]) rfl ?_
      refine Go.aloadN D (pc' := 37) d3_36 rfl rfl rfl ?_
      refine Go.getF D (pc' := 40) (hw _ (List.mem_of_getElem? (i := 19) rfl)) d3_37 rfl F.2.2.2.1 ?_
      refine Go.aloadN D (pc' := 41) d3_40 rfl rfl rfl ?_
      refine Go.getF D (pc' := 44) (hw _ (List.mem_of_getElem? (i := 10) rfl)) d3_41 rfl F.2.1 ?_
      refine Go.alen D (pc' := 45) d3_44 rfl Ac ?_
      refine Go.icmp D (pc' := 82) (pc2 := 48) d3_45 (by decide) (by decide) rfl ?_ ?_
      · intro (hc45 : ¬ (Int32.ofNat (A ++ B).length) = (Int32.ofNat cap))
        refine Go.up (by decide : 0 ≤ 2) (by decide : 0 ≤ 16) ?_
        have hne : (A ++ B).length ≠ cap := fun q => hc45 (by rw [q])
        exact J82 h1 ca na ka kb jc jn cap F Ac An hjc hjn ncn nc nn gc gn (by omega) (by omega) xa
      · intro (hc45 : (Int32.ofNat (A ++ B).length) = (Int32.ofNat cap))
        refine Go.aloadN D (pc' := 49) d3_48 rfl rfl rfl ?_
        refine Go.aloadN D (pc' := 50) d3_49 rfl rfl rfl ?_
        refine Go.getF D (pc' := 53) (hw _ (List.mem_of_getElem? (i := 10) rfl)) d3_50 rfl F.2.1 ?_
        refine Go.iconst D (pc' := 54) d3_53 rfl (v := (2 : Int32)) rfl ?_
        refine Go.aloadN D (pc' := 55) d3_54 rfl rfl rfl ?_
        refine Go.getF D (pc' := 58) (hw _ (List.mem_of_getElem? (i := 19) rfl)) d3_55 rfl F.2.2.2.1 ?_
        refine Go.imul D (pc' := 59) d3_58 rfl  ?_
        have hcc : (A ++ B).length = cap := own_inj (by omega) (by omega) hc45
        obtain rfl : jc = [] := List.eq_nil_of_length_eq_zero (by omega)
        obtain rfl : jn = [] := List.eq_nil_of_length_eq_zero (by omega)
        have hpos : 0 < cap := hcap0
        rw [own_dbl (by omega)]
        refine Go.callS D (argsL := [(.ref ca), (.int (Int32.ofNat (2 * (A ++ B).length)))]) (rest := [(.ref t)]) (pc' := 62) (ce' := 1) (sl' := 8) (con_copy l Z a0 hw h1 n0 Z0 ca ka cap (2 * (A ++ B).length) _ Ac (by simp [vc] <;> omega) (by omega) (by omega)) (hw _ (List.mem_of_getElem? (i := 37) rfl)) (hw _ (List.mem_of_getElem? (i := 38) rfl)) (hw _ (List.mem_of_getElem? (i := 23) rfl)) (hw _ (List.mem_of_getElem? (i := 39) rfl)) (by decide) d3_59 rfl pd7 rfl rfl rfl (by decide) (W := 1) rfl (by decide) (by decide) (by decide) (by decide) (by decide) ?_
        intro v59 h2 q59
        obtain ⟨cb, kc, rfl, gb, E2, C2, XB⟩ := q59
        show Go κ h2 1 8 62 #[.val (.ref t), .val (.int a), .val (.int (-(Int32.ofNat A.length + (1 : Int32)))), .val (.int (Int32.ofNat A.length))] [(.ref cb), (.ref t)]
        refine Go.putF D (pc' := 65) (hw _ (List.mem_of_getElem? (i := 10) rfl)) d3_62 rfl (F.ext E2).2.1 (F.ext E2).1 (Or.inl (hw _ (List.mem_of_getElem? (i := 11) rfl))) (hw _ (List.mem_of_getElem? (i := 1) rfl)) (ty := (.array .int)) (by decide) rfl rfl gt ?_
        intro h3 W3
        have F3 := (F.ext E2).set_codes hw W3
        have qt := own_ltn F.1.lt
        have qn := own_ltn An.lt
        refine Go.aloadN D (pc' := 66) d3_65 rfl rfl rfl ?_
        refine Go.aloadN D (pc' := 67) d3_66 rfl rfl rfl ?_
        refine Go.getF D (pc' := 70) (hw _ (List.mem_of_getElem? (i := 12) rfl)) d3_67 rfl F3.2.2.1 ?_
        refine Go.iconst D (pc' := 71) d3_70 rfl (v := (2 : Int32)) rfl ?_
        refine Go.aloadN D (pc' := 72) d3_71 rfl rfl rfl ?_
        refine Go.getF D (pc' := 75) (hw _ (List.mem_of_getElem? (i := 19) rfl)) d3_72 rfl F3.2.2.2.1 ?_
        refine Go.imul D (pc' := 76) d3_75 rfl  ?_
        have N3 := (An.ext E2).other W3 nn
        rw [own_dbl (by omega)]
        refine Go.callS D (argsL := [(.ref na), (.int (Int32.ofNat (2 * (A ++ B).length)))]) (rest := [(.ref t)]) (pc' := 79) (ce' := 2) (sl' := 16) (con_copy l Z a0 hw h3 n0 (by have := W3.size; have := E2.1; omega) na kb cap (2 * (A ++ B).length) _ N3 (by simp [vn] <;> omega) (by omega) (by omega)) (hw _ (List.mem_of_getElem? (i := 37) rfl)) (hw _ (List.mem_of_getElem? (i := 38) rfl)) (hw _ (List.mem_of_getElem? (i := 23) rfl)) (hw _ (List.mem_of_getElem? (i := 39) rfl)) (by decide) d3_76 rfl pd7 rfl rfl rfl (by decide) (W := 1) rfl (by decide) (by decide) (by decide) (by decide) (by decide) ?_
        intro v76 h4 q76
        obtain ⟨nb, kd, rfl, gb2, E4, N4, -⟩ := q76
        show Go κ h4 2 16 79 #[.val (.ref t), .val (.int a), .val (.int (-(Int32.ofNat A.length + (1 : Int32)))), .val (.int (Int32.ofNat A.length))] [(.ref nb), (.ref t)]
        refine Go.putF D (pc' := 82) (hw _ (List.mem_of_getElem? (i := 12) rfl)) d3_79 rfl (F3.ext E4).2.2.1 (F3.ext E4).1 (Or.inl (hw _ (List.mem_of_getElem? (i := 13) rfl))) (hw _ (List.mem_of_getElem? (i := 1) rfl)) (ty := (.array .int)) (by decide) rfl rfl gt ?_
        intro h5 W5
        have z3 := W3.size
        have z2 := E2.1
        have z5 := own_ltn C2.lt
        have z6 := E4.1
        have z7 := own_ltn N4.lt
        refine J82 h5 cb nb kc kd (List.replicate (2 * (A ++ B).length - cap) (.int 0)) (List.replicate (2 * (A ++ B).length - cap) (.int 0)) (2 * (A ++ B).length) ((F3.ext E4).set_counts hw W5) ?_ ?_ ?_ ?_ (own_ne (by omega)) (own_ne (by omega)) (own_ne (by omega)) (by omega) (by omega) (by omega) (by omega) (((XB.wr W3).ext E4).wr W5)
        · have q := ((C2.other W3 (own_ne (by omega))).ext E4).other W5 (own_ne (by omega))
          simpa using q
        · have q := N4.other W5 (own_ne (by omega))
          simpa using q
        · simp; omega
        · simp; omega
    · intro (hc15 : ¬ (-(Int32.ofNat A.length + (1 : Int32))) < 0)
      exact absurd (own_neg (by omega)) hc15
abbrev y11 : MethodName := ⟨"com/example/opaque_cohort/opaquecohort/CodeTally", "remove", "(I)V"⟩
theorem d11_0 : decode prog_1_method_3_code 0 = .ok (.aload_n 0, 1) := by decide +kernel
theorem d11_1 : decode prog_1_method_3_code 1 = .ok (.getfield 7, 3) := by decide +kernel
theorem d11_4 : decode prog_1_method_3_code 4 = .ok (.iconst 0, 1) := by decide +kernel
theorem d11_5 : decode prog_1_method_3_code 5 = .ok (.aload_n 0, 1) := by decide +kernel
theorem d11_6 : decode prog_1_method_3_code 6 = .ok (.getfield 16, 3) := by decide +kernel
theorem d11_9 : decode prog_1_method_3_code 9 = .ok (.iload_n 1, 1) := by decide +kernel
theorem d11_10 : decode prog_1_method_3_code 10 = .ok (.invokestatic 20, 3) := by decide +kernel
theorem d11_13 : decode prog_1_method_3_code 13 = .ok (.istore_n 2, 1) := by decide +kernel
theorem d11_14 : decode prog_1_method_3_code 14 = .ok (.aload_n 0, 1) := by decide +kernel
theorem d11_15 : decode prog_1_method_3_code 15 = .ok (.getfield 13, 3) := by decide +kernel
theorem d11_18 : decode prog_1_method_3_code 18 = .ok (.iload_n 2, 1) := by decide +kernel
theorem d11_19 : decode prog_1_method_3_code 19 = .ok (.dup2, 1) := by decide +kernel
theorem d11_20 : decode prog_1_method_3_code 20 = .ok (.iaload, 1) := by decide +kernel
theorem d11_21 : decode prog_1_method_3_code 21 = .ok (.iconst 1, 1) := by decide +kernel
theorem d11_22 : decode prog_1_method_3_code 22 = .ok (.isub, 1) := by decide +kernel
theorem d11_23 : decode prog_1_method_3_code 23 = .ok (.iastore, 1) := by decide +kernel
theorem d11_24 : decode prog_1_method_3_code 24 = .ok (.aload_n 0, 1) := by decide +kernel
theorem d11_25 : decode prog_1_method_3_code 25 = .ok (.getfield 13, 3) := by decide +kernel
theorem d11_28 : decode prog_1_method_3_code 28 = .ok (.iload_n 2, 1) := by decide +kernel
theorem d11_29 : decode prog_1_method_3_code 29 = .ok (.iaload, 1) := by decide +kernel
theorem d11_30 : decode prog_1_method_3_code 30 = .ok (.ifCond .ne 81, 3) := by decide +kernel
theorem d11_33 : decode prog_1_method_3_code 33 = .ok (.aload_n 0, 1) := by decide +kernel
theorem d11_34 : decode prog_1_method_3_code 34 = .ok (.getfield 7, 3) := by decide +kernel
theorem d11_37 : decode prog_1_method_3_code 37 = .ok (.iload_n 2, 1) := by decide +kernel
theorem d11_38 : decode prog_1_method_3_code 38 = .ok (.iconst 1, 1) := by decide +kernel
theorem d11_39 : decode prog_1_method_3_code 39 = .ok (.iadd, 1) := by decide +kernel
theorem d11_40 : decode prog_1_method_3_code 40 = .ok (.aload_n 0, 1) := by decide +kernel
theorem d11_41 : decode prog_1_method_3_code 41 = .ok (.getfield 7, 3) := by decide +kernel
theorem d11_44 : decode prog_1_method_3_code 44 = .ok (.iload_n 2, 1) := by decide +kernel
theorem d11_45 : decode prog_1_method_3_code 45 = .ok (.aload_n 0, 1) := by decide +kernel
theorem d11_46 : decode prog_1_method_3_code 46 = .ok (.getfield 16, 3) := by decide +kernel
theorem d11_49 : decode prog_1_method_3_code 49 = .ok (.iload_n 2, 1) := by decide +kernel
theorem d11_50 : decode prog_1_method_3_code 50 = .ok (.isub, 1) := by decide +kernel
theorem d11_51 : decode prog_1_method_3_code 51 = .ok (.iconst 1, 1) := by decide +kernel
theorem d11_52 : decode prog_1_method_3_code 52 = .ok (.isub, 1) := by decide +kernel
theorem d11_53 : decode prog_1_method_3_code 53 = .ok (.invokestatic 30, 3) := by decide +kernel
theorem d11_56 : decode prog_1_method_3_code 56 = .ok (.aload_n 0, 1) := by decide +kernel
theorem d11_57 : decode prog_1_method_3_code 57 = .ok (.getfield 13, 3) := by decide +kernel
theorem d11_60 : decode prog_1_method_3_code 60 = .ok (.iload_n 2, 1) := by decide +kernel
theorem d11_61 : decode prog_1_method_3_code 61 = .ok (.iconst 1, 1) := by decide +kernel
theorem d11_62 : decode prog_1_method_3_code 62 = .ok (.iadd, 1) := by decide +kernel
theorem d11_63 : decode prog_1_method_3_code 63 = .ok (.aload_n 0, 1) := by decide +kernel
theorem d11_64 : decode prog_1_method_3_code 64 = .ok (.getfield 13, 3) := by decide +kernel
theorem d11_67 : decode prog_1_method_3_code 67 = .ok (.iload_n 2, 1) := by decide +kernel
theorem d11_68 : decode prog_1_method_3_code 68 = .ok (.aload_n 0, 1) := by decide +kernel
theorem d11_69 : decode prog_1_method_3_code 69 = .ok (.getfield 16, 3) := by decide +kernel
theorem d11_72 : decode prog_1_method_3_code 72 = .ok (.iload_n 2, 1) := by decide +kernel
theorem d11_73 : decode prog_1_method_3_code 73 = .ok (.isub, 1) := by decide +kernel
theorem d11_74 : decode prog_1_method_3_code 74 = .ok (.iconst 1, 1) := by decide +kernel
theorem d11_75 : decode prog_1_method_3_code 75 = .ok (.isub, 1) := by decide +kernel
theorem d11_76 : decode prog_1_method_3_code 76 = .ok (.invokestatic 30, 3) := by decide +kernel
theorem d11_79 : decode prog_1_method_3_code 79 = .ok (.aload_n 0, 1) := by decide +kernel
theorem d11_80 : decode prog_1_method_3_code 80 = .ok (.dup, 1) := by decide +kernel
theorem d11_81 : decode prog_1_method_3_code 81 = .ok (.getfield 16, 3) := by decide +kernel
theorem d11_84 : decode prog_1_method_3_code 84 = .ok (.iconst 1, 1) := by decide +kernel
theorem d11_85 : decode prog_1_method_3_code 85 = .ok (.isub, 1) := by decide +kernel
theorem d11_86 : decode prog_1_method_3_code 86 = .ok (.putfield 16, 3) := by decide +kernel
theorem d11_89 : decode prog_1_method_3_code 89 = .ok (.iload_n 1, 1) := by decide +kernel
theorem d11_90 : decode prog_1_method_3_code 90 = .ok (.bipush 64, 2) := by decide +kernel
theorem d11_92 : decode prog_1_method_3_code 92 = .ok (.if_icmp .ge 19, 3) := by decide +kernel
theorem d11_95 : decode prog_1_method_3_code 95 = .ok (.aload_n 0, 1) := by decide +kernel
theorem d11_96 : decode prog_1_method_3_code 96 = .ok (.dup, 1) := by decide +kernel
theorem d11_97 : decode prog_1_method_3_code 97 = .ok (.getfield 38, 3) := by decide +kernel
theorem d11_100 : decode prog_1_method_3_code 100 = .ok (.lconst 1, 1) := by decide +kernel
theorem d11_101 : decode prog_1_method_3_code 101 = .ok (.iload_n 1, 1) := by decide +kernel
theorem d11_102 : decode prog_1_method_3_code 102 = .ok (.lshl, 1) := by decide +kernel
theorem d11_103 : decode prog_1_method_3_code 103 = .ok (.ldc2_w 42, 3) := by decide +kernel
theorem d11_106 : decode prog_1_method_3_code 106 = .ok (.lxor, 1) := by decide +kernel
theorem d11_107 : decode prog_1_method_3_code 107 = .ok (.land, 1) := by decide +kernel
theorem d11_108 : decode prog_1_method_3_code 108 = .ok (.putfield 38, 3) := by decide +kernel
theorem d11_111 : decode prog_1_method_3_code 111 = .ok (.return_, 1) := by decide +kernel
theorem pd11 : parseMethodDescriptor "(I)V" = some ⟨[.int], none⟩ := by decide +kernel
theorem pn11 : plainFor y11 = true := by first | exact plainFor_of_name (by first | (simp [plainName, overriddenIn]; done) | decide +kernel) | decide +kernel | rfl
set_option maxRecDepth 65536 in
set_option maxHeartbeats 40000000 in
theorem con_remove (l : Launch) (Z : State) (a0 : Array Value) (hw : ∀ d ∈ tables_1, d.before a0 Z = true) (h0 : Heap) (n0 : Nat) (t : Addr) (a : Int32) (cap N : Nat) (ps : List (Int32 × Nat)) (fc : Int64) (T : Tal Z h0 n0 t cap ps fc) (hs : Srt ps) (hc : Cts N ps) (hN : N ≤ 4) (hcap : cap ≤ 2 * N + 1) (hpa : 0 < cnt ps a) :
    Con l Z y11 prog_1_method_3_code 3 none ({ frames := 2, cells := 0, slots := 0, locals := 100 } : Room) [] #[(.ref t), (.int a)] h0 n0 (fun v h => v = none ∧ ∃ ps' fc', Tal Z h n0 t cap ps' fc' ∧ Srt ps' ∧ Cts N ps' ∧ (∀ x, cnt ps' x + (if a = x then 1 else 0) = cnt ps x) ∧ FcR (cnt ps a) a fc fc') := by
  refine Con.of_go pn11 (ls := #[.val (.ref t), .val (.int a), .unset]) (fun m => by first | (simp [entryFrame, mkF, argsToLocals, Value.category]; done) | rfl) ?_
  intro κ D
  obtain ⟨ca, na, ka, kb, jc, jn, F, Ac, An, hjc, hjn, ncn, nc, nn, gt, gc, gn, xa⟩ := T
  have hlen := hc.1
  refine Go.aloadN D (pc' := 1) d11_0 rfl rfl rfl ?_
  refine Go.getF D (pc' := 4) (hw _ (List.mem_of_getElem? (i := 10) rfl)) d11_1 rfl F.2.1 ?_
  refine Go.iconst D (pc' := 5) d11_4 rfl (v := (0 : Int32)) rfl ?_
  refine Go.aloadN D (pc' := 6) d11_5 rfl rfl rfl ?_
  refine Go.getF D (pc' := 9) (hw _ (List.mem_of_getElem? (i := 19) rfl)) d11_6 rfl F.2.2.2.1 ?_
  refine Go.iloadN D (pc' := 10) d11_9 rfl rfl ?_
  refine Go.callS D (argsL := [(.ref ca), (.int (0 : Int32)), (.int (Int32.ofNat ps.length)), (.int a)]) (rest := []) (pc' := 13) (ce' := 0) (sl' := 0) (con_bs l Z a0 hw h0 n0 ca ka cap ps jc Ac hs (by omega) (by omega) a) (hw _ (List.mem_of_getElem? (i := 21) rfl)) (hw _ (List.mem_of_getElem? (i := 22) rfl)) (hw _ (List.mem_of_getElem? (i := 23) rfl)) (hw _ (List.mem_of_getElem? (i := 24) rfl)) (by decide) d11_10 rfl pd4 rfl rfl rfl (by decide) (W := 0) rfl (by decide) (by decide) (by decide) (by decide) (by decide) ?_
  intro v10 h1 q10
  obtain ⟨rfl, r, rfl, hr⟩ := q10
  show Go κ h1 0 0 13 #[.val (.ref t), .val (.int a), .unset] [(.int r)]
  rcases hr with hr | hr0
  rotate_left
  · exact absurd (bs_cnt hr0) (by omega)
  obtain ⟨A, n, B, rfl, rfl⟩ := hr
  have hca := cnt_at hs
  have hn := hc.2 (a, n) (by simp)
  dsimp only at hn
  have hL : (A ++ (a, n) :: B).length = A.length + B.length + 1 := by simp; omega
  have hA : A.length < cap := by omega
  refine Go.istoreN D (pc' := 14) d11_13 rfl (ls' := #[.val (.ref t), .val (.int a), .val (.int (Int32.ofNat A.length))]) rfl ?_
  refine Go.aloadN D (pc' := 15) d11_14 rfl rfl rfl ?_
  refine Go.getF D (pc' := 18) (hw _ (List.mem_of_getElem? (i := 12) rfl)) d11_15 rfl F.2.2.1 ?_
  refine Go.iloadN D (pc' := 19) d11_18 rfl rfl ?_
  refine Go.dup2 D (pc' := 20) d11_19 rfl rfl rfl ?_
  refine Go.iaload D (pc' := 21) d11_20 rfl An (own_nn (by omega)) ((own_lt (by omega) (by omega)).mpr hA) (v := .int (Int32.ofNat n)) (by rw [own_tn (by omega)]; exact vn_at) ?_
  refine Go.iconst D (pc' := 22) d11_21 rfl (v := (1 : Int32)) rfl ?_
  refine Go.isub D (pc' := 23) d11_22 rfl  ?_
  rw [own_pred (by omega) (by omega)]
  refine Go.iastore D (pc' := 24) (i := A.length) d11_23 rfl An (own_nn (by omega)) ((own_lt (by omega) (by omega)).mpr hA) (own_tn (by omega)) (by simp [vn] <;> omega) gn  ?_
  intro h2 K2 N2
  have F2 := F.keep K2 (nin1 (Ne.symm nn))
  have C2 := Ac.keep K2 (nin1 ncn)
  have N2' : Arv Z h2 na kb .int (Int32.ofNat cap) (vn (A ++ (a, n - 1) :: B) ++ jn) (.int 0) := by simpa [vn] using N2
  refine Go.aloadN D (pc' := 25) d11_24 rfl rfl rfl ?_
  refine Go.getF D (pc' := 28) (hw _ (List.mem_of_getElem? (i := 12) rfl)) d11_25 rfl F2.2.2.1 ?_
  refine Go.iloadN D (pc' := 29) d11_28 rfl rfl ?_
  refine Go.iaload D (pc' := 30) d11_29 rfl N2' (own_nn (by omega)) ((own_lt (by omega) (by omega)).mpr hA) (v := .int (Int32.ofNat (n - 1))) (by rw [own_tn (by omega)]; exact vn_at) ?_
  refine Go.ifc D (pc' := 111) (pc2 := 33) d11_30 (by decide) (by decide) rfl ?_ ?_
  · intro (hc30 : ¬ (Int32.ofNat (n - 1)) = 0)
    refine Go.vret D rfl d11_111 (by decide) (by decide) ?_
    have hn2 : n - 1 ≠ 0 := fun q => hc30 (by rw [q]; rfl)
    refine ⟨rfl, A ++ (a, n - 1) :: B, fc, ⟨ca, na, ka, kb, jc, jn, ?_, ?_, N2', ?_, ?_, ncn, nc, nn, gt, gc, gn, xa.keep K2⟩, set_srt hs, ?_, ?_, ?_⟩
    · simpa using F2
    · simpa [vc] using C2
    · simpa using hjc
    · simpa using hjn
    · refine ⟨by simp at hlen ⊢; omega, fun p hp => ?_⟩
      rcases List.mem_append.mp hp with hp | hp
      · exact hc.2 p (by simp [hp])
      · rcases List.mem_cons.mp hp with rfl | hp
        · dsimp only; omega
        · exact hc.2 p (by simp [hp])
    · intro x
      simp only [cnt_app, cnt]
      split <;> omega
    · exact Or.inl ⟨by omega, rfl⟩
  · intro (hc30 : (Int32.ofNat (n - 1)) = 0)
    have hn1 : n = 1 := by
      have := own_inj (j := 0) (by omega) (by omega) hc30
      omega
    refine Go.aloadN D (pc' := 34) d11_33 rfl rfl rfl ?_
    refine Go.getF D (pc' := 37) (hw _ (List.mem_of_getElem? (i := 10) rfl)) d11_34 rfl F2.2.1 ?_
    refine Go.iloadN D (pc' := 38) d11_37 rfl rfl ?_
    refine Go.iconst D (pc' := 39) d11_38 rfl (v := (1 : Int32)) rfl ?_
    refine Go.iadd D (pc' := 40) d11_39 rfl  ?_
    refine Go.aloadN D (pc' := 41) d11_40 rfl rfl rfl ?_
    refine Go.getF D (pc' := 44) (hw _ (List.mem_of_getElem? (i := 10) rfl)) d11_41 rfl F2.2.1 ?_
    refine Go.iloadN D (pc' := 45) d11_44 rfl rfl ?_
    refine Go.aloadN D (pc' := 46) d11_45 rfl rfl rfl ?_
    refine Go.getF D (pc' := 49) (hw _ (List.mem_of_getElem? (i := 19) rfl)) d11_46 rfl F2.2.2.2.1 ?_
    refine Go.iloadN D (pc' := 50) d11_49 rfl rfl ?_
    refine Go.isub D (pc' := 51) d11_50 rfl  ?_
    refine Go.iconst D (pc' := 52) d11_51 rfl (v := (1 : Int32)) rfl ?_
    refine Go.isub D (pc' := 53) d11_52 rfl  ?_
    rw [own_succ, own_sub (by omega) (by omega), own_pred (by omega) (by omega), show (A ++ (a, n) :: B).length - A.length - 1 = B.length by omega]
    refine Go.acopy D (pc' := 56) (sN := (A.length + 1)) (dN := A.length) (nN := B.length) (hw _ (List.mem_of_getElem? (i := 31) rfl)) (hw _ (List.mem_of_getElem? (i := 34) rfl)) (hw _ (List.mem_of_getElem? (i := 32) rfl)) (hw _ (List.mem_of_getElem? (i := 33) rfl)) d11_53 rfl C2 C2 rfl (own_nn (by omega)) (own_nn (by omega)) (own_nn (by omega)) (own_tn (by omega)) (own_tn (by omega)) (own_tn (by omega)) (by rw [own_tn (by omega)]; omega) (by rw [own_tn (by omega)]; omega) (by simp [vc, vn] <;> omega) gc rfl (by decide) (W := 0) rfl (by decide) ?_
    intro h3 K3 C3
    refine Go.aloadN D (pc' := 57) d11_56 rfl rfl rfl ?_
    refine Go.getF D (pc' := 60) (hw _ (List.mem_of_getElem? (i := 12) rfl)) d11_57 rfl (F2.keep K3 (nin1 (Ne.symm nc))).2.2.1 ?_
    refine Go.iloadN D (pc' := 61) d11_60 rfl rfl ?_
    refine Go.iconst D (pc' := 62) d11_61 rfl (v := (1 : Int32)) rfl ?_
    refine Go.iadd D (pc' := 63) d11_62 rfl  ?_
    refine Go.aloadN D (pc' := 64) d11_63 rfl rfl rfl ?_
    refine Go.getF D (pc' := 67) (hw _ (List.mem_of_getElem? (i := 12) rfl)) d11_64 rfl (F2.keep K3 (nin1 (Ne.symm nc))).2.2.1 ?_
    refine Go.iloadN D (pc' := 68) d11_67 rfl rfl ?_
    refine Go.aloadN D (pc' := 69) d11_68 rfl rfl rfl ?_
    refine Go.getF D (pc' := 72) (hw _ (List.mem_of_getElem? (i := 19) rfl)) d11_69 rfl (F2.keep K3 (nin1 (Ne.symm nc))).2.2.2.1 ?_
    refine Go.iloadN D (pc' := 73) d11_72 rfl rfl ?_
    refine Go.isub D (pc' := 74) d11_73 rfl  ?_
    refine Go.iconst D (pc' := 75) d11_74 rfl (v := (1 : Int32)) rfl ?_
    refine Go.isub D (pc' := 76) d11_75 rfl  ?_
    rw [own_succ, own_sub (by omega) (by omega), own_pred (by omega) (by omega), show (A ++ (a, n) :: B).length - A.length - 1 = B.length by omega]
    refine Go.acopy D (pc' := 79) (sN := (A.length + 1)) (dN := A.length) (nN := B.length) (hw _ (List.mem_of_getElem? (i := 31) rfl)) (hw _ (List.mem_of_getElem? (i := 34) rfl)) (hw _ (List.mem_of_getElem? (i := 32) rfl)) (hw _ (List.mem_of_getElem? (i := 33) rfl)) d11_76 rfl (N2'.keep K3 (nin1 (Ne.symm ncn))) (N2'.keep K3 (nin1 (Ne.symm ncn))) rfl (own_nn (by omega)) (own_nn (by omega)) (own_nn (by omega)) (own_tn (by omega)) (own_tn (by omega)) (own_tn (by omega)) (by rw [own_tn (by omega)]; omega) (by rw [own_tn (by omega)]; omega) (by simp [vc, vn] <;> omega) gn rfl (by decide) (W := 0) rfl (by decide) ?_
    intro h4 K4 N4
    have F4 := (F2.keep K3 (nin1 (Ne.symm nc))).keep K4 (nin1 (Ne.symm nn))
    have C4 := C3.keep K4 (nin1 ncn)
    refine Go.aloadN D (pc' := 80) d11_79 rfl rfl rfl ?_
    refine Go.dup D (pc' := 81) d11_80 rfl rfl ?_
    refine Go.getF D (pc' := 84) (hw _ (List.mem_of_getElem? (i := 19) rfl)) d11_81 rfl F4.2.2.2.1 ?_
    refine Go.iconst D (pc' := 85) d11_84 rfl (v := (1 : Int32)) rfl ?_
    refine Go.isub D (pc' := 86) d11_85 rfl  ?_
    rw [own_pred (by omega) (by omega)]
    refine Go.putF D (pc' := 89) (hw _ (List.mem_of_getElem? (i := 19) rfl)) d11_86 rfl F4.2.2.2.1 F4.1 (Or.inl (hw _ (List.mem_of_getElem? (i := 20) rfl))) (hw _ (List.mem_of_getElem? (i := 1) rfl)) (ty := .int) (by decide) rfl rfl gt ?_
    intro h5 W5
    have F5 := F4.set_distinct hw W5
    have C5 := C4.other W5 nc
    have N5 := N4.other W5 nn
    obtain ⟨j1, C6⟩ : ∃ j, Arv Z h5 ca ka .int (Int32.ofNat cap) (vc (A ++ B) ++ j :: jc) (.int 0) := by
      obtain ⟨j, e⟩ := del_list (A := A.map fun p => Value.int p.1) (B := B.map fun p => Value.int p.1) (c := .int a) (dv := .int 0) (J := jc)
      simp only [List.length_map] at e
      simp only [vc, List.map_append, List.map_cons] at C5
      rw [e] at C5
      exact ⟨j, by simpa [vc] using C5⟩
    obtain ⟨j2, N6⟩ : ∃ j, Arv Z h5 na kb .int (Int32.ofNat cap) (vn (A ++ B) ++ j :: jn) (.int 0) := by
      obtain ⟨j, e⟩ := del_list (A := A.map fun p => Value.int (Int32.ofNat p.2)) (B := B.map fun p => Value.int (Int32.ofNat p.2)) (c := .int (Int32.ofNat (n - 1))) (dv := .int 0) (J := jn)
      simp only [List.length_map] at e
      simp only [vn, List.map_append, List.map_cons] at N5
      rw [e] at N5
      exact ⟨j, by simpa [vn] using N5⟩
    refine Go.iloadN D (pc' := 90) d11_89 rfl rfl ?_
    refine Go.bipush D (pc' := 92) d11_90 rfl (v := (64 : Int32)) rfl ?_
    refine Go.icmp D (pc' := 111) (pc2 := 95) d11_92 (by decide) (by decide) rfl ?_ ?_
    · intro (hc92 : ¬ a < (64 : Int32))
      refine Go.vret D rfl d11_111 (by decide) (by decide) ?_
      refine ⟨rfl, A ++ B, _, ⟨ca, na, ka, kb, j1 :: jc, j2 :: jn, ?_, C6, N6, ?_, ?_, ncn, nc, nn, gt, gc, gn, ((((xa.keep K2).keep K3).keep K4).wr W5)⟩, del_srt hs, ?_, ?_, Or.inr ⟨hca.trans hn1, Or.inl ⟨hc92, rfl⟩⟩⟩
      · have e : (A ++ B).length = (A ++ (a, n) :: B).length - 1 := by simp <;> omega
        rw [e]; exact F5
      · simp at hjc ⊢; omega
      · simp at hjn ⊢; omega
      · refine ⟨by simp at hlen ⊢; omega, fun p hp => ?_⟩
        rcases List.mem_append.mp hp with hp | hp
        · exact hc.2 p (by simp [hp])
        · exact hc.2 p (by simp [hp])
      · intro x
        simp only [cnt_app, cnt]
        split <;> omega
    · intro (hc92 : a < (64 : Int32))
      refine Go.aloadN D (pc' := 96) d11_95 rfl rfl rfl ?_
      refine Go.dup D (pc' := 97) d11_96 rfl rfl ?_
      refine Go.getF D (pc' := 100) (hw _ (List.mem_of_getElem? (i := 35) rfl)) d11_97 rfl F5.2.2.2.2 ?_
      refine Go.lconst D (pc' := 101) d11_100 rfl (v := (1 : Int64)) rfl ?_
      refine Go.iloadN D (pc' := 102) d11_101 rfl rfl ?_
      refine Go.lshl D (pc' := 103) d11_102 rfl  ?_
      refine Go.ldc2Long D (pc' := 106) (hw _ (List.mem_of_getElem? (i := 68) rfl)) d11_103 rfl ?_
      refine Go.lxor D (pc' := 107) d11_106 rfl  ?_
      refine Go.land D (pc' := 108) d11_107 rfl  ?_
      refine Go.putF D (pc' := 111) (hw _ (List.mem_of_getElem? (i := 35) rfl)) d11_108 rfl F5.2.2.2.2 F5.1 (Or.inl (hw _ (List.mem_of_getElem? (i := 36) rfl))) (hw _ (List.mem_of_getElem? (i := 1) rfl)) (ty := .long) (by decide) rfl rfl gt ?_
      intro h6 W6
      refine Go.vret D rfl d11_111 (by decide) (by decide) ?_
      refine ⟨rfl, A ++ B, _, ⟨ca, na, ka, kb, j1 :: jc, j2 :: jn, ?_, (C6.other W6 nc), (N6.other W6 nn), ?_, ?_, ncn, nc, nn, gt, gc, gn, (((((xa.keep K2).keep K3).keep K4).wr W5).wr W6)⟩, del_srt hs, ?_, ?_, Or.inr ⟨hca.trans hn1, Or.inr ⟨hc92, rfl⟩⟩⟩
      · have e : (A ++ B).length = (A ++ (a, n) :: B).length - 1 := by simp <;> omega
        rw [e]; exact (F5.set_firstCodes hw W6)
      · simp at hjc ⊢; omega
      · simp at hjn ⊢; omega
      · refine ⟨by simp at hlen ⊢; omega, fun p hp => ?_⟩
        rcases List.mem_append.mp hp with hp | hp
        · exact hc.2 p (by simp [hp])
        · exact hc.2 p (by simp [hp])
      · intro x
        simp only [cnt_app, cnt]
        split <;> omega
theorem own_copyS {nl : Nat} {vs : List Value} {d : Value} (hv : nl ≤ vs.length) : (List.replicate nl d).take 0 ++ ((List.range nl).map fun i => vs.getD (0 + i) d) ++ (List.replicate nl d).drop (0 + nl) = vs.take nl := by
  have h1 : ((List.range nl).map fun i => vs.getD (0 + i) d) = vs.take nl := by
    apply List.ext_getElem (by simp; omega)
    intro i h1 h2
    have : i < vs.length := by simp at h1; omega
    simp [this]
  rw [h1]; simp
set_option maxRecDepth 65536 in
set_option maxHeartbeats 40000000 in
theorem con_copyS (l : Launch) (Z : State) (a0 : Array Value) (hw : ∀ d ∈ tables_1, d.before a0 Z = true) (h0 : Heap) (n0 : Nat) (Z0 : n0 ≤ h0.size) (a : Addr) (k : ClassId) (cap nl : Nat) (vs : List Value) (V : Arv Z h0 a k .int (Int32.ofNat cap) vs (.int 0)) (X : Exa Z h0 a "[I") (hv : vs.length = cap) (h1 : nl ≤ cap) (h2 : nl ≤ 8) (hc : cap < 1048576) :
    Con l Z y7 jdk_65_method_123_code 3 ((some (.array .int))) ({ frames := 1, cells := 1, slots := 8, locals := 64 } : Room) [] #[(.ref a), (.int (Int32.ofNat nl))] h0 n0 (fun v h => ∃ b k', v = some (.ref b) ∧ h0.size ≤ b ∧ Ext h0 h ∧ Arv Z h b k' .int (Int32.ofNat nl) (vs.take nl) (.int 0)) := by
  refine Con.of_go pn7 (ls := #[.val (.ref a), .val (.int (Int32.ofNat nl)), .unset]) (fun m => by first | (simp [entryFrame, mkF, argsToLocals, Value.category]; done) | rfl) ?_
  intro κ D
  refine Go.iloadN D (pc' := 1) d7_0 rfl rfl ?_
  refine Go.aloadN D (pc' := 2) d7_1 rfl rfl rfl ?_
  refine Go.alen D (pc' := 3) d7_2 rfl V ?_
  refine Go.icmp D (pc' := 14) (pc2 := 6) d7_3 (by decide) (by decide) rfl ?_ ?_
  · intro (hc3 : ¬ (Int32.ofNat nl) = (Int32.ofNat cap))
    have hlt : nl < cap := by
      rcases Nat.lt_or_eq_of_le h1 with q | q
      · exact q
      · exact absurd (by rw [q]) hc3
    refine Go.iloadN D (pc' := 15) d7_14 rfl rfl ?_
    refine Go.newPE D (pc' := 17) (aty := .int) (cap := 8) (ce' := 1) (sl' := 8) (hw _ (List.mem_of_getElem? (i := 9) rfl)) d7_15 rfl (own_nn (by omega)) (by rw [own_tn (by omega)]; omega) (by decide) (ad := "[I") (by decide) rfl rfl (by decide) (by decide) ?_
    intro h1 b kb gb E1 B1 X1
    refine Go.astoreN D (pc' := 18) d7_17 rfl rfl (ls' := #[.val (.ref a), .val (.int (Int32.ofNat nl)), .val (.ref b)]) rfl ?_
    refine Go.aloadN D (pc' := 19) d7_18 rfl rfl rfl ?_
    refine Go.iconst D (pc' := 20) d7_19 rfl (v := (0 : Int32)) rfl ?_
    refine Go.aloadN D (pc' := 21) d7_20 rfl rfl rfl ?_
    refine Go.iconst D (pc' := 22) d7_21 rfl (v := (0 : Int32)) rfl ?_
    refine Go.aloadN D (pc' := 23) d7_22 rfl rfl rfl ?_
    refine Go.alen D (pc' := 24) d7_23 rfl (V.ext E1) ?_
    refine Go.iloadN D (pc' := 25) d7_24 rfl rfl ?_
    refine Go.callS D (argsL := [(.int (Int32.ofNat cap)), (.int (Int32.ofNat nl))]) (rest := [(.int (0 : Int32)), (.ref b), (.int (0 : Int32)), (.ref a)]) (pc' := 28) (ce' := 1) (sl' := 8) (con_min l Z a0 hw h1 n0 (Int32.ofNat cap) (Int32.ofNat nl)) (hw _ (List.mem_of_getElem? (i := 40) rfl)) (hw _ (List.mem_of_getElem? (i := 41) rfl)) (hw _ (List.mem_of_getElem? (i := 42) rfl)) (hw _ (List.mem_of_getElem? (i := 43) rfl)) (by decide) d7_25 rfl pd8 rfl rfl rfl (by decide) (W := 4) rfl (by decide) (by decide) (by decide) (by decide) (by decide) ?_
    intro v25 h2 q25
    obtain ⟨rfl, r, rfl, hr⟩ := q25
    obtain rfl : r = Int32.ofNat nl := hr.elim (fun z => z.2) (fun z => absurd ((own_lt (by omega) (by omega)).mpr hlt) z.1)
    show Go κ h2 1 8 28 #[.val (.ref a), .val (.int (Int32.ofNat nl)), .val (.ref b)] [(.int (Int32.ofNat nl)), (.int (0 : Int32)), (.ref b), (.int (0 : Int32)), (.ref a)]
    refine Go.acopy D (pc' := 31) (sN := 0) (dN := 0) (nN := nl) (hw _ (List.mem_of_getElem? (i := 44) rfl)) (hw _ (List.mem_of_getElem? (i := 34) rfl)) (hw _ (List.mem_of_getElem? (i := 32) rfl)) (hw _ (List.mem_of_getElem? (i := 33) rfl)) d7_28 rfl (V.ext E1) (B1.pad (vs' := List.replicate nl (.int 0)) (fun i => pad_rep [] (.int 0) nl i)) rfl (by decide) (by decide) (own_nn (by omega)) rfl rfl (own_tn (by omega)) (by rw [own_tn (by omega)]; omega) (by rw [own_tn (by omega)]; omega) (by simp <;> omega) (by omega) rfl (by decide) (W := 0) rfl (by decide) ?_
    intro h3 K3 B3
    refine Go.aloadN D (pc' := 32) d7_31 rfl rfl rfl ?_
    refine Go.aret D rfl rfl rfl d7_32 (by decide) (by decide) ?_
    refine ⟨b, kb, rfl, by omega, E1.keepN K3 (by omega), ?_⟩
    rw [own_copyS (by omega)] at B3
    exact B3
  · intro (hc3 : (Int32.ofNat nl) = (Int32.ofNat cap))
    refine Go.aloadN D (pc' := 7) d7_6 rfl rfl rfl ?_
    have hnc : nl = cap := own_inj (by omega) (by omega) hc3
    subst hnc
    refine Go.cloneV D (pc' := 10) (ad := "[I") (cap := 8) (ce' := 1) (sl' := 8) (hw _ (List.mem_of_getElem? (i := 54) rfl)) (hw _ (List.mem_of_getElem? (i := 55) rfl)) (hw _ (List.mem_of_getElem? (i := 59) rfl)) (hw _ (List.mem_of_getElem? (i := 57) rfl)) (hw _ (List.mem_of_getElem? (i := 58) rfl)) (hw _ (List.mem_of_getElem? (i := 60) rfl)) d7_7 rfl rfl V X (by decide) (W := 0) rfl (by decide) (by rw [own_tn (by omega)]; omega) rfl rfl (by decide) (by decide) ?_
    intro h1 b gb E1 B1 X1
    refine Go.castY D (pc' := 13) (hw _ (List.mem_of_getElem? (i := 61) rfl)) d7_10 rfl (Ins.self X1) ?_
    refine Go.aret D rfl rfl rfl d7_13 (by decide) (by decide) ?_
    refine ⟨b, k, rfl, by omega, E1, ?_⟩
    rw [List.take_of_length_le (by omega)]
    exact B1
abbrev y10 : MethodName := ⟨"com/example/opaque_cohort/opaquecohort/CodeTally", "codes", "()[I"⟩
theorem d10_0 : decode prog_1_method_6_code 0 = .ok (.aload_n 0, 1) := by decide +kernel
theorem d10_1 : decode prog_1_method_6_code 1 = .ok (.getfield 7, 3) := by decide +kernel
theorem d10_4 : decode prog_1_method_6_code 4 = .ok (.aload_n 0, 1) := by decide +kernel
theorem d10_5 : decode prog_1_method_6_code 5 = .ok (.getfield 16, 3) := by decide +kernel
theorem d10_8 : decode prog_1_method_6_code 8 = .ok (.invokestatic 26, 3) := by decide +kernel
theorem d10_11 : decode prog_1_method_6_code 11 = .ok (.areturn, 1) := by decide +kernel
theorem pd10 : parseMethodDescriptor "()[I" = some ⟨[], (some (.array .int))⟩ := by decide +kernel
theorem pn10 : plainFor y10 = true := by first | exact plainFor_of_name (by first | (simp [plainName, overriddenIn]; done) | decide +kernel) | decide +kernel | rfl
set_option maxRecDepth 65536 in
set_option maxHeartbeats 40000000 in
theorem con_codes (l : Launch) (Z : State) (a0 : Array Value) (hw : ∀ d ∈ tables_1, d.before a0 Z = true) (h0 : Heap) (n0 : Nat) (Z0 : n0 ≤ h0.size) (t : Addr) (cap : Nat) (ps : List (Int32 × Nat)) (fc : Int64) (T : Tal Z h0 n0 t cap ps fc) (hc : Cts 4 ps) (hcap : cap ≤ 9) :
    Con l Z y10 prog_1_method_6_code 1 ((some (.array .int))) ({ frames := 2, cells := 1, slots := 8, locals := 110 } : Room) [] #[(.ref t)] h0 n0 (fun v h => ∃ b k', v = some (.ref b) ∧ h0.size ≤ b ∧ Ext h0 h ∧ Arv Z h b k' .int (Int32.ofNat ps.length) (vc ps ++ []) (.int 0)) := by
  refine Con.of_go pn10 (ls := #[.val (.ref t)]) (fun m => by first | (simp [entryFrame, mkF, argsToLocals, Value.category]; done) | rfl) ?_
  intro κ D
  obtain ⟨ca, na, ka, kb, jc, jn, F, Ac, An, hjc, hjn, ncn, nc, nn, gt, gc, gn, xa⟩ := T
  have hlen := hc.1
  refine Go.aloadN D (pc' := 1) d10_0 rfl rfl rfl ?_
  refine Go.getF D (pc' := 4) (hw _ (List.mem_of_getElem? (i := 10) rfl)) d10_1 rfl F.2.1 ?_
  refine Go.aloadN D (pc' := 5) d10_4 rfl rfl rfl ?_
  refine Go.getF D (pc' := 8) (hw _ (List.mem_of_getElem? (i := 19) rfl)) d10_5 rfl F.2.2.2.1 ?_
  refine Go.callS D (argsL := [(.ref ca), (.int (Int32.ofNat ps.length))]) (rest := []) (pc' := 11) (ce' := 1) (sl' := 8) (con_copyS l Z a0 hw h0 n0 Z0 ca ka cap ps.length _ Ac xa (by simp [vc] <;> omega) (by omega) (by omega) (by omega)) (hw _ (List.mem_of_getElem? (i := 37) rfl)) (hw _ (List.mem_of_getElem? (i := 38) rfl)) (hw _ (List.mem_of_getElem? (i := 23) rfl)) (hw _ (List.mem_of_getElem? (i := 39) rfl)) (by decide) d10_8 rfl pd7 rfl rfl rfl (by decide) (W := 0) rfl (by decide) (by decide) (by decide) (by decide) (by decide) ?_
  intro v8 h1 q8
  obtain ⟨b, kc, rfl, gb, E1, B1⟩ := q8
  show Go κ h1 1 8 11 #[.val (.ref t)] [(.ref b)]
  refine Go.aret D rfl rfl rfl d10_11 (by decide) (by decide) ?_
  refine ⟨b, kc, rfl, gb, E1, ?_⟩
  have e : (vc ps ++ jc).take ps.length = vc ps ++ [] := by rw [← vc_len ps, List.take_left]; simp
  rw [e] at B1
  exact B1
def ei (p : Prop) [Decidable p] : Int := if p then 1 else 0
theorem ei_rng (p : Prop) [Decidable p] : 0 ≤ ei p ∧ ei p ≤ 1 := by unfold ei; split <;> omega
theorem ei_t {p : Prop} [Decidable p] (h : p) : ei p = 1 := if_pos h
theorem ei_f {p : Prop} [Decidable p] (h : ¬ p) : ei p = 0 := if_neg h
def HE (x a b c d f1 f2 : Int32) : Int := ei (a = x) + ei (b = x) + ei (c = x) + ei (d = x) - ei (¬ f1 = 0 ∧ a = x) - ei (¬ f2 = 0 ∧ c = x)
theorem inc_i {k : Int32} {e : Int} (h : k.toInt = e) (b1 : -10 ≤ e) (b2 : e ≤ 10) : (k + 1).toInt = e + 1 := by
  have r1 := c_iadd k 1
  have r2 := rng32 (k + 1)
  rw [show (1 : Int32).toInt = 1 from rfl] at r1
  omega
theorem dec_i {k : Int32} {e : Int} (h : k.toInt = e) (b1 : -10 ≤ e) (b2 : e ≤ 10) : (k + (-1)).toInt = e - 1 := by
  have r1 := c_iadd k (-1)
  have r2 := rng32 (k + (-1))
  rw [show (-1 : Int32).toInt = -1 from rfl] at r1
  omega
theorem cnt_e {c c' : Nat} {a x : Int32} (h : c' = c + if a = x then 1 else 0) : (c' : Int) = c + ei (a = x) := by
  rcases own_add h with ⟨q, r⟩ | ⟨q, r⟩
  · rw [ei_t q]; omega
  · rw [ei_f q]; omega
theorem cnt_r {c c' : Nat} {a x : Int32} (h : c' + (if a = x then 1 else 0) = c) : (c' : Int) = c - ei (a = x) := by
  rcases own_rem h with ⟨q, r⟩ | ⟨q, r⟩
  · rw [ei_t q]; omega
  · rw [ei_f q]; omega
theorem ei_and {f : Int32} {p : Prop} [Decidable p] (h : ¬ f = 0) : ei (¬ f = 0 ∧ p) = ei p := by
  by_cases q : p
  · rw [ei_t q, ei_t ⟨h, q⟩]
  · rw [ei_f q, ei_f fun z => q z.2]
theorem ei_no {f : Int32} {p : Prop} [Decidable p] (h : f = 0) : ei (¬ f = 0 ∧ p) = 0 := ei_f fun z => z.1 h
def HR (r : Int32) (e : Int) : Prop := (r = 1 ∧ 0 < e) ∨ (r = 0 ∧ ¬ 0 < e)
theorem HR.y {r : Int32} {e : Int} (h : HR r e) (q : ¬ r = 0) : 0 < e := h.elim (fun z => z.2) fun z => absurd z.1 q
theorem HR.n {r : Int32} {e : Int} (h : HR r e) (q : r = 0) : ¬ 0 < e := h.elim (fun z => by rw [z.1] at q; exact absurd q (by decide)) fun z => z.2
theorem nd_le : ∀ {l m : List Int32}, l.Nodup → (∀ x ∈ l, x ∈ m) → l.length ≤ m.length
  | [], _, _, _ => Nat.zero_le _
  | x :: l, m, h, q => by
    obtain ⟨h1, h2⟩ := List.nodup_cons.mp h
    have := nd_le (m := m.erase x) h2 fun y hy => (List.mem_erase_of_ne (fun (e : y = x) => h1 (e ▸ hy))).mpr (q y (by simp [hy]))
    have hx := q x (by simp)
    rw [List.length_erase_of_mem hx] at this
    have := List.length_pos_of_mem hx
    simp; omega
theorem cnt_pos {N : Nat} : ∀ {ps : List (Int32 × Nat)}, (∀ p ∈ ps, 0 < p.2 ∧ p.2 ≤ N) → ∀ p ∈ ps, 0 < cnt ps p.1
  | q :: r, h, p, hp => by
    rcases List.mem_cons.mp hp with e | e
    · have := (h q (by simp)).1
      subst e; simp [cnt]; omega
    · have := cnt_pos (fun z hz => h z (by simp [hz])) p e
      simp [cnt]; omega
theorem ky_pos {N : Nat} {ps : List (Int32 × Nat)} (hc : Cts N ps) {i : Nat} (h : i < ps.length) : 0 < cnt ps (ky ps i) := by
  rw [ky_get h]; exact cnt_pos hc.2 _ (List.getElem_mem h)
theorem len_eq {N : Nat} {ps : List (Int32 × Nat)} {L : List Int32} (hs : Srt ps) (hc : Cts N ps) (hL : L.Nodup) (hm : ∀ x, x ∈ L ↔ 0 < cnt ps x) : L.length = ps.length := by
  have nd : (ps.map (·.1)).Nodup := List.pairwise_map.mpr (hs.imp fun h e => by rw [e] at h; exact Int32.lt_irrefl h)
  have h1 := nd_le hL (m := ps.map (·.1)) fun x hx => by
    obtain ⟨p, hp, e⟩ := cnt_mem ((hm x).mp hx)
    exact List.mem_map.mpr ⟨p, hp, e⟩
  have h2 := nd_le nd (m := L) fun x hx => by
    obtain ⟨p, hp, e⟩ := List.mem_map.mp hx
    exact (hm x).mpr (e ▸ cnt_pos hc.2 p hp)
  simp at h1 h2
  omega
theorem Tal.fresh {Z : State} {h h1 h2 : Heap} {n0 : Nat} {t b : Addr} {cap : Nat} {ps : List (Int32 × Nat)} {fc : Int64} (T : Tal Z h n0 t cap ps fc) (E : Ext h h1) (K : Keep h1 h2 [b]) (q : h.size ≤ b) : Tal Z h2 n0 t cap ps fc := T.up (E.keepN K q)
abbrev y9 : MethodName := ⟨"com/example/opaque_cohort/opaquecohort/CodeTallyCodesPinLaw", "held", "(IIIIIZZ)Z"⟩
theorem d9_0 : decode method_3_code 0 = .ok (.iconst 0, 1) := by decide +kernel
theorem d9_1 : decode method_3_code 1 = .ok (.istore 7, 2) := by decide +kernel
theorem d9_3 : decode method_3_code 3 = .ok (.iload_n 1, 1) := by decide +kernel
theorem d9_4 : decode method_3_code 4 = .ok (.iload_n 0, 1) := by decide +kernel
theorem d9_5 : decode method_3_code 5 = .ok (.if_icmp .ne 6, 3) := by decide +kernel
theorem d9_8 : decode method_3_code 8 = .ok (.iinc 7 1, 3) := by decide +kernel
theorem d9_11 : decode method_3_code 11 = .ok (.iload_n 2, 1) := by decide +kernel
theorem d9_12 : decode method_3_code 12 = .ok (.iload_n 0, 1) := by decide +kernel
theorem d9_13 : decode method_3_code 13 = .ok (.if_icmp .ne 6, 3) := by decide +kernel
theorem d9_16 : decode method_3_code 16 = .ok (.iinc 7 1, 3) := by decide +kernel
theorem d9_19 : decode method_3_code 19 = .ok (.iload_n 3, 1) := by decide +kernel
theorem d9_20 : decode method_3_code 20 = .ok (.iload_n 0, 1) := by decide +kernel
theorem d9_21 : decode method_3_code 21 = .ok (.if_icmp .ne 6, 3) := by decide +kernel
theorem d9_24 : decode method_3_code 24 = .ok (.iinc 7 1, 3) := by decide +kernel
theorem d9_27 : decode method_3_code 27 = .ok (.iload 4, 2) := by decide +kernel
theorem d9_29 : decode method_3_code 29 = .ok (.iload_n 0, 1) := by decide +kernel
theorem d9_30 : decode method_3_code 30 = .ok (.if_icmp .ne 6, 3) := by decide +kernel
theorem d9_33 : decode method_3_code 33 = .ok (.iinc 7 1, 3) := by decide +kernel
theorem d9_36 : decode method_3_code 36 = .ok (.iload 5, 2) := by decide +kernel
theorem d9_38 : decode method_3_code 38 = .ok (.ifCond .eq 11, 3) := by decide +kernel
theorem d9_41 : decode method_3_code 41 = .ok (.iload_n 1, 1) := by decide +kernel
theorem d9_42 : decode method_3_code 42 = .ok (.iload_n 0, 1) := by decide +kernel
theorem d9_43 : decode method_3_code 43 = .ok (.if_icmp .ne 6, 3) := by decide +kernel
theorem d9_46 : decode method_3_code 46 = .ok (.iinc 7 (-1), 3) := by decide +kernel
theorem d9_49 : decode method_3_code 49 = .ok (.iload 6, 2) := by decide +kernel
theorem d9_51 : decode method_3_code 51 = .ok (.ifCond .eq 11, 3) := by decide +kernel
theorem d9_54 : decode method_3_code 54 = .ok (.iload_n 3, 1) := by decide +kernel
theorem d9_55 : decode method_3_code 55 = .ok (.iload_n 0, 1) := by decide +kernel
theorem d9_56 : decode method_3_code 56 = .ok (.if_icmp .ne 6, 3) := by decide +kernel
theorem d9_59 : decode method_3_code 59 = .ok (.iinc 7 (-1), 3) := by decide +kernel
theorem d9_62 : decode method_3_code 62 = .ok (.iload 7, 2) := by decide +kernel
theorem d9_64 : decode method_3_code 64 = .ok (.ifCond .le 7, 3) := by decide +kernel
theorem d9_67 : decode method_3_code 67 = .ok (.iconst 1, 1) := by decide +kernel
theorem d9_68 : decode method_3_code 68 = .ok (.goto 4, 3) := by decide +kernel
theorem d9_71 : decode method_3_code 71 = .ok (.iconst 0, 1) := by decide +kernel
theorem d9_72 : decode method_3_code 72 = .ok (.ireturn, 1) := by decide +kernel
theorem pd9 : parseMethodDescriptor "(IIIIIZZ)Z" = some ⟨[.int, .int, .int, .int, .int, .boolean, .boolean], (some .boolean)⟩ := by decide +kernel
theorem pn9 : plainFor y9 = true := by first | exact plainFor_of_name (by first | (simp [plainName, overriddenIn]; done) | decide +kernel) | decide +kernel | rfl
set_option maxRecDepth 65536 in
set_option maxHeartbeats 40000000 in
theorem con_held (l : Launch) (Z : State) (a0 : Array Value) (hw : ∀ d ∈ tables_1, d.before a0 Z = true) (h0 : Heap) (n0 : Nat) (x a b c d f1 f2 : Int32) :
    Con l Z y9 method_3_code 8 ((some .boolean)) ({ frames := 0, cells := 0, slots := 0, locals := 0 } : Room) [] #[(.int x), (.int a), (.int b), (.int c), (.int d), (.int f1), (.int f2)] h0 n0 (fun v h => h0 = h ∧ ∃ r, v = some (.int r) ∧ HR r (HE x a b c d f1 f2)) := by
  refine Con.of_go pn9 (ls := #[.val (.int x), .val (.int a), .val (.int b), .val (.int c), .val (.int d), .val (.int f1), .val (.int f2), .unset]) (fun m => by first | (simp [entryFrame, mkF, argsToLocals, Value.category]; done) | rfl) ?_
  intro κ D
  have r0 := ei_rng (a = x)
  have r1 := ei_rng (b = x)
  have r2 := ei_rng (c = x)
  have r3 := ei_rng (d = x)
  have r4 := ei_rng (¬ f1 = 0 ∧ a = x)
  have r5 := ei_rng (¬ f2 = 0 ∧ c = x)
  have J62 : ∀ k : Int32, k.toInt = 0 + ei (a = x) + ei (b = x) + ei (c = x) + ei (d = x) - ei (¬ f1 = 0 ∧ a = x) - ei (¬ f2 = 0 ∧ c = x) → Go κ h0 0 0 62 #[.val (.int x), .val (.int a), .val (.int b), .val (.int c), .val (.int d), .val (.int f1), .val (.int f2), .val (.int k)] [] := by
    intro k hk
    refine Go.iload D (pc' := 64) d9_62 rfl rfl ?_
    refine Go.ifc D (pc' := 71) (pc2 := 67) d9_64 (by decide) (by decide) rfl ?_ ?_
    · intro (hc64 : ¬ 0 < k)
      refine Go.iconst D (pc' := 72) d9_71 rfl (v := (0 : Int32)) rfl ?_
      refine Go.zret D rfl rfl d9_72 (by decide) (by decide) ?_
      refine ⟨rfl, _, rfl, Or.inr ⟨rfl, ?_⟩⟩
      have q := hc64
      rw [Int32.lt_iff_toInt_lt, show (0 : Int32).toInt = 0 from rfl] at q
      unfold HE
      omega
    · intro (hc64 : 0 < k)
      refine Go.iconst D (pc' := 68) d9_67 rfl (v := (1 : Int32)) rfl ?_
      refine Go.goto D (pc' := 72) d9_68 (by decide) (by decide) ?_
      refine Go.zret D rfl rfl d9_72 (by decide) (by decide) ?_
      refine ⟨rfl, _, rfl, Or.inl ⟨rfl, ?_⟩⟩
      have q := hc64
      rw [Int32.lt_iff_toInt_lt, show (0 : Int32).toInt = 0 from rfl] at q
      unfold HE
      omega
  have J49 : ∀ k : Int32, k.toInt = 0 + ei (a = x) + ei (b = x) + ei (c = x) + ei (d = x) - ei (¬ f1 = 0 ∧ a = x) → Go κ h0 0 0 49 #[.val (.int x), .val (.int a), .val (.int b), .val (.int c), .val (.int d), .val (.int f1), .val (.int f2), .val (.int k)] [] := by
    intro k hk
    refine Go.iload D (pc' := 51) d9_49 rfl rfl ?_
    refine Go.ifc D (pc' := 62) (pc2 := 54) d9_51 (by decide) (by decide) rfl ?_ ?_
    · intro (hc51 : f2 = 0)
      have z : ei (¬ f2 = 0 ∧ c = x) = 0 := ei_f (fun q => q.1 hc51)
      exact J62 _ (hk.trans (by omega))
    · intro (hc51 : ¬ f2 = 0)
      refine Go.iloadN D (pc' := 55) d9_54 rfl rfl ?_
      refine Go.iloadN D (pc' := 56) d9_55 rfl rfl ?_
      refine Go.icmp D (pc' := 62) (pc2 := 59) d9_56 (by decide) (by decide) rfl ?_ ?_
      · intro (hc56 : ¬ c = x)
        have z : ei (¬ f2 = 0 ∧ c = x) = 0 := ei_f (fun q => hc56 q.2)
        exact J62 _ (hk.trans (by omega))
      · intro (hc56 : c = x)
        refine Go.iinc D (pc' := 62) d9_59 rfl rfl (d := (-1 : Int32)) rfl (ls' := #[.val (.int x), .val (.int a), .val (.int b), .val (.int c), .val (.int d), .val (.int f1), .val (.int f2), .val (.int (k + (-1 : Int32)))]) rfl ?_
        have z : ei (¬ f2 = 0 ∧ c = x) = 1 := ei_t ⟨hc51, hc56⟩
        exact J62 _ ((dec_i hk (by omega) (by omega)).trans (by omega))
  have J36 : ∀ k : Int32, k.toInt = 0 + ei (a = x) + ei (b = x) + ei (c = x) + ei (d = x) → Go κ h0 0 0 36 #[.val (.int x), .val (.int a), .val (.int b), .val (.int c), .val (.int d), .val (.int f1), .val (.int f2), .val (.int k)] [] := by
    intro k hk
    refine Go.iload D (pc' := 38) d9_36 rfl rfl ?_
    refine Go.ifc D (pc' := 49) (pc2 := 41) d9_38 (by decide) (by decide) rfl ?_ ?_
    · intro (hc38 : f1 = 0)
      have z : ei (¬ f1 = 0 ∧ a = x) = 0 := ei_f (fun q => q.1 hc38)
      exact J49 _ (hk.trans (by omega))
    · intro (hc38 : ¬ f1 = 0)
      refine Go.iloadN D (pc' := 42) d9_41 rfl rfl ?_
      refine Go.iloadN D (pc' := 43) d9_42 rfl rfl ?_
      refine Go.icmp D (pc' := 49) (pc2 := 46) d9_43 (by decide) (by decide) rfl ?_ ?_
      · intro (hc43 : ¬ a = x)
        have z : ei (¬ f1 = 0 ∧ a = x) = 0 := ei_f (fun q => hc43 q.2)
        exact J49 _ (hk.trans (by omega))
      · intro (hc43 : a = x)
        refine Go.iinc D (pc' := 49) d9_46 rfl rfl (d := (-1 : Int32)) rfl (ls' := #[.val (.int x), .val (.int a), .val (.int b), .val (.int c), .val (.int d), .val (.int f1), .val (.int f2), .val (.int (k + (-1 : Int32)))]) rfl ?_
        have z : ei (¬ f1 = 0 ∧ a = x) = 1 := ei_t ⟨hc38, hc43⟩
        exact J49 _ ((dec_i hk (by omega) (by omega)).trans (by omega))
  have J27 : ∀ k : Int32, k.toInt = 0 + ei (a = x) + ei (b = x) + ei (c = x) → Go κ h0 0 0 27 #[.val (.int x), .val (.int a), .val (.int b), .val (.int c), .val (.int d), .val (.int f1), .val (.int f2), .val (.int k)] [] := by
    intro k hk
    refine Go.iload D (pc' := 29) d9_27 rfl rfl ?_
    refine Go.iloadN D (pc' := 30) d9_29 rfl rfl ?_
    refine Go.icmp D (pc' := 36) (pc2 := 33) d9_30 (by decide) (by decide) rfl ?_ ?_
    · intro (hc30 : ¬ d = x)
      have z := ei_f hc30
      exact J36 _ (hk.trans (by omega))
    · intro (hc30 : d = x)
      refine Go.iinc D (pc' := 36) d9_33 rfl rfl (d := (1 : Int32)) rfl (ls' := #[.val (.int x), .val (.int a), .val (.int b), .val (.int c), .val (.int d), .val (.int f1), .val (.int f2), .val (.int (k + (1 : Int32)))]) rfl ?_
      have z := ei_t hc30
      exact J36 _ ((inc_i hk (by omega) (by omega)).trans (by omega))
  have J19 : ∀ k : Int32, k.toInt = 0 + ei (a = x) + ei (b = x) → Go κ h0 0 0 19 #[.val (.int x), .val (.int a), .val (.int b), .val (.int c), .val (.int d), .val (.int f1), .val (.int f2), .val (.int k)] [] := by
    intro k hk
    refine Go.iloadN D (pc' := 20) d9_19 rfl rfl ?_
    refine Go.iloadN D (pc' := 21) d9_20 rfl rfl ?_
    refine Go.icmp D (pc' := 27) (pc2 := 24) d9_21 (by decide) (by decide) rfl ?_ ?_
    · intro (hc21 : ¬ c = x)
      have z := ei_f hc21
      exact J27 _ (hk.trans (by omega))
    · intro (hc21 : c = x)
      refine Go.iinc D (pc' := 27) d9_24 rfl rfl (d := (1 : Int32)) rfl (ls' := #[.val (.int x), .val (.int a), .val (.int b), .val (.int c), .val (.int d), .val (.int f1), .val (.int f2), .val (.int (k + (1 : Int32)))]) rfl ?_
      have z := ei_t hc21
      exact J27 _ ((inc_i hk (by omega) (by omega)).trans (by omega))
  have J11 : ∀ k : Int32, k.toInt = 0 + ei (a = x) → Go κ h0 0 0 11 #[.val (.int x), .val (.int a), .val (.int b), .val (.int c), .val (.int d), .val (.int f1), .val (.int f2), .val (.int k)] [] := by
    intro k hk
    refine Go.iloadN D (pc' := 12) d9_11 rfl rfl ?_
    refine Go.iloadN D (pc' := 13) d9_12 rfl rfl ?_
    refine Go.icmp D (pc' := 19) (pc2 := 16) d9_13 (by decide) (by decide) rfl ?_ ?_
    · intro (hc13 : ¬ b = x)
      have z := ei_f hc13
      exact J19 _ (hk.trans (by omega))
    · intro (hc13 : b = x)
      refine Go.iinc D (pc' := 19) d9_16 rfl rfl (d := (1 : Int32)) rfl (ls' := #[.val (.int x), .val (.int a), .val (.int b), .val (.int c), .val (.int d), .val (.int f1), .val (.int f2), .val (.int (k + (1 : Int32)))]) rfl ?_
      have z := ei_t hc13
      exact J19 _ ((inc_i hk (by omega) (by omega)).trans (by omega))
  have J3 : ∀ k : Int32, k.toInt = 0 → Go κ h0 0 0 3 #[.val (.int x), .val (.int a), .val (.int b), .val (.int c), .val (.int d), .val (.int f1), .val (.int f2), .val (.int k)] [] := by
    intro k hk
    refine Go.iloadN D (pc' := 4) d9_3 rfl rfl ?_
    refine Go.iloadN D (pc' := 5) d9_4 rfl rfl ?_
    refine Go.icmp D (pc' := 11) (pc2 := 8) d9_5 (by decide) (by decide) rfl ?_ ?_
    · intro (hc5 : ¬ a = x)
      have z := ei_f hc5
      exact J11 _ (hk.trans (by omega))
    · intro (hc5 : a = x)
      refine Go.iinc D (pc' := 11) d9_8 rfl rfl (d := (1 : Int32)) rfl (ls' := #[.val (.int x), .val (.int a), .val (.int b), .val (.int c), .val (.int d), .val (.int f1), .val (.int f2), .val (.int (k + (1 : Int32)))]) rfl ?_
      have z := ei_t hc5
      exact J11 _ ((inc_i hk (by omega) (by omega)).trans (by omega))
  refine Go.iconst D (pc' := 1) d9_0 rfl (v := (0 : Int32)) rfl ?_
  refine Go.istore D (pc' := 3) d9_1 rfl (ls' := #[.val (.int x), .val (.int a), .val (.int b), .val (.int c), .val (.int d), .val (.int f1), .val (.int f2), .val (.int (0 : Int32))]) rfl ?_
  exact J3 0 rfl
theorem pd0 : parseMethodDescriptor "(IIIII)Z" = some ⟨[.int, .int, .int, .int, .int], (some .boolean)⟩ := by decide +kernel
theorem pn0 : plainFor x = true := by first | exact plainFor_of_name (by first | (simp [plainName, overriddenIn]; done) | decide +kernel) | decide +kernel | rfl
set_option maxRecDepth 65536 in
set_option maxHeartbeats 40000000 in
theorem con_law (l : Launch) (Z : State) (a0 : Array Value) (hw : ∀ d ∈ tables_1, d.before a0 Z = true) (h0 : Heap) (n0 : Nat) (Z0 : n0 ≤ h0.size) (a b c d fl : Int32) :
    Con l Z x code maxLocals ret room_1 tables_1 #[(.int a), (.int b), (.int c), (.int d), (.int fl)] h0 n0 (fun v h => v = some (.int 1)) := by
  refine Con.of_go pn0 (ls := #[.val (.int a), .val (.int b), .val (.int c), .val (.int d), .val (.int fl), .unset, .unset, .unset, .unset, .unset, .unset, .unset, .unset, .unset, .unset]) (fun m => by first | (simp [entryFrame, mkF, argsToLocals, Value.category, maxLocals]; done) | rfl) ?_
  intro κ D
  have J132 : ∀ (b2 c2 d2 f1 f2 : Int32) (t : Addr), ∀ (hz : Heap) (cap : Nat) (ps : List (Int32 × Nat)) (fc : Int64), Tal Z hz n0 t cap ps fc → Srt ps → Cts 4 ps → cap ≤ 9 → (∀ x, (cnt ps x : Int) = ei (a = x) + ei (b2 = x) + ei (c2 = x) + ei (d2 = x) - ei (¬ f1 = 0 ∧ a = x) - ei (¬ f2 = 0 ∧ c2 = x)) → Go κ hz 11 70 132 #[.val (.int a), .val (.int b), .val (.int c), .val (.int d), .val (.int fl), .val (.int b2), .val (.int c2), .val (.int d2), .val (.int f1), .val (.int f2), .val (.ref t), .unset, .unset, .unset, .unset] [] := by
    intro b2 c2 d2 f1 f2 t hz cap ps fc T hs hc4 hcap hcnt
    have hlen := hc4.1
    have hall : ∀ x, 0 < cnt ps x → (x = a ∨ x = b2 ∨ x = c2 ∨ x = d2) := by
      intro x hx
      refine Classical.byContradiction fun q => ?_
      have q0 := hcnt x
      rw [ei_f (p := a = x) (fun e => q (Or.inl e.symm)), ei_f (p := b2 = x) (fun e => q (Or.inr (Or.inl e.symm))), ei_f (p := c2 = x) (fun e => q (Or.inr (Or.inr (Or.inl e.symm)))), ei_f (p := d2 = x) (fun e => q (Or.inr (Or.inr (Or.inr e.symm))))] at q0
      have z1 := ei_rng (¬ f1 = 0 ∧ a = x)
      have z2 := ei_rng (¬ f2 = 0 ∧ c2 = x)
      omega
    have J261 : Go κ hz 11 70 261 #[.val (.int a), .val (.int b), .val (.int c), .val (.int d), .val (.int fl), .val (.int b2), .val (.int c2), .val (.int d2), .val (.int f1), .val (.int f2), .val (.ref t), .val (.int (Int32.ofNat ps.length)), .unset, .unset, .unset] [] := by
      refine Go.aload D (pc' := 263) at_261 rfl rfl rfl ?_
      refine Go.callV D (argsL := []) (rest := []) (pc' := 266) (ce' := 12) (sl' := 78) (con_codes l Z a0 hw hz n0 T.sz t cap ps fc T hc4 hcap) (hw _ (List.mem_of_getElem? (i := 49) rfl)) (hw _ (List.mem_of_getElem? (i := 50) rfl)) (hw _ (List.mem_of_getElem? (i := 52) rfl)) (hw _ (List.mem_of_getElem? (i := 51) rfl)) (hw _ (List.mem_of_getElem? (i := 2) rfl)) (hw _ (List.mem_of_getElem? (i := 53) rfl)) (nfS (hw _ (List.mem_of_getElem? (i := 52) rfl))) (by decide) T.exa at_263 rfl pd10 rfl rfl rfl (by decide) (W := 0) rfl (by decide) (by decide) (by decide) (by decide) (by decide) ?_
      intro v263 hb q263
      obtain ⟨arr, kA, rfl, gbb, EB, B⟩ := q263
      have gb : n0 ≤ arr := Nat.le_trans T.sz gbb
      show Go κ hb 12 78 266 #[.val (.int a), .val (.int b), .val (.int c), .val (.int d), .val (.int fl), .val (.int b2), .val (.int c2), .val (.int d2), .val (.int f1), .val (.int f2), .val (.ref t), .val (.int (Int32.ofNat ps.length)), .unset, .unset, .unset] [(.ref arr)]
      refine Go.astore D (pc' := 268) at_266 rfl rfl (ls' := #[.val (.int a), .val (.int b), .val (.int c), .val (.int d), .val (.int fl), .val (.int b2), .val (.int c2), .val (.int d2), .val (.int f1), .val (.int f2), .val (.ref t), .val (.int (Int32.ofNat ps.length)), .val (.ref arr), .unset, .unset]) rfl ?_
      refine Go.aload D (pc' := 270) at_268 rfl rfl rfl ?_
      refine Go.alen D (pc' := 271) at_270 rfl B ?_
      refine Go.iload D (pc' := 273) at_271 rfl rfl ?_
      refine Go.icmp D (pc' := 278) (pc2 := 276) at_273 (by decide) (by decide) rfl ?_ ?_
      · intro (hc273 : (Int32.ofNat ps.length) = (Int32.ofNat ps.length))
        have J427 : Go κ hb 12 78 427 #[.val (.int a), .val (.int b), .val (.int c), .val (.int d), .val (.int fl), .val (.int b2), .val (.int c2), .val (.int d2), .val (.int f1), .val (.int f2), .val (.ref t), .val (.int (Int32.ofNat ps.length)), .val (.ref arr), .unset, .unset] [] := by
          refine Go.iload D (pc' := 429) at_427 rfl rfl ?_
          refine Go.iconst D (pc' := 430) at_429 rfl (v := (1 : Int32)) rfl ?_
          refine Go.icmp D (pc' := 473) (pc2 := 433) at_430 (by decide) (by decide) rfl ?_ ?_
          · intro (hc430 : (Int32.ofNat ps.length) < (1 : Int32))
            refine Go.iconst D (pc' := 474) at_473 rfl (v := (1 : Int32)) rfl ?_
            refine Go.zret D rfl rfl at_474 (by decide) (by decide) ?_
            exact rfl
          · intro (hc430 : ¬ (Int32.ofNat ps.length) < (1 : Int32))
            have hi : 0 < ps.length := by
              have q := mt (own_lt (i := ps.length) (j := 1) (by omega) (by omega)).mpr hc430
              omega
            refine Go.aload D (pc' := 435) at_433 rfl rfl rfl ?_
            refine Go.iconst D (pc' := 436) at_435 rfl (v := (0 : Int32)) rfl ?_
            refine Go.iaload D (pc' := 437) at_436 rfl B (by decide) ((own_lt (i := 0) (j := ps.length) (by omega) (by omega)).mpr hi) (v := .int (ky ps 0)) (by rw [show (0 : Int32).toNatClampNeg = 0 from rfl]; exact vc_at hi) ?_
            refine Go.istore D (pc' := 439) at_437 rfl (ls' := #[.val (.int a), .val (.int b), .val (.int c), .val (.int d), .val (.int fl), .val (.int b2), .val (.int c2), .val (.int d2), .val (.int f1), .val (.int f2), .val (.ref t), .val (.int (Int32.ofNat ps.length)), .val (.ref arr), .val (.int (ky ps 0)), .unset]) rfl ?_
            refine Go.aload D (pc' := 441) at_439 rfl rfl rfl ?_
            refine Go.iconst D (pc' := 442) at_441 rfl (v := (0 : Int32)) rfl ?_
            refine Go.iload D (pc' := 444) at_442 rfl rfl ?_
            refine Go.iconst D (pc' := 445) at_444 rfl (v := (-1 : Int32)) rfl ?_
            refine Go.ixor D (pc' := 446) at_445 rfl  ?_
            refine Go.iastore D (pc' := 447) (i := 0) at_446 rfl B (by decide) ((own_lt (i := 0) (j := ps.length) (by omega) (by omega)).mpr hi) rfl (by simp [vc]; omega) gb  ?_
            intro hc K5 B5
            have T5 := T.fresh EB K5 gbb
            refine Go.aload D (pc' := 449) at_447 rfl rfl rfl ?_
            refine Go.callV D (argsL := []) (rest := []) (pc' := 452) (ce' := 13) (sl' := 86) (con_codes l Z a0 hw hc n0 T5.sz t cap ps fc T5 hc4 hcap) (hw _ (List.mem_of_getElem? (i := 49) rfl)) (hw _ (List.mem_of_getElem? (i := 50) rfl)) (hw _ (List.mem_of_getElem? (i := 52) rfl)) (hw _ (List.mem_of_getElem? (i := 51) rfl)) (hw _ (List.mem_of_getElem? (i := 2) rfl)) (hw _ (List.mem_of_getElem? (i := 53) rfl)) (nfS (hw _ (List.mem_of_getElem? (i := 52) rfl))) (by decide) T5.exa at_449 rfl pd10 rfl rfl rfl (by decide) (W := 0) rfl (by decide) (by decide) (by decide) (by decide) (by decide) ?_
            intro v449 hd q449
            obtain ⟨ar2, k2, rfl, gb2, E6, B6⟩ := q449
            show Go κ hd 13 86 452 #[.val (.int a), .val (.int b), .val (.int c), .val (.int d), .val (.int fl), .val (.int b2), .val (.int c2), .val (.int d2), .val (.int f1), .val (.int f2), .val (.ref t), .val (.int (Int32.ofNat ps.length)), .val (.ref arr), .val (.int (ky ps 0)), .unset] [(.ref ar2)]
            refine Go.astore D (pc' := 454) at_452 rfl rfl (ls' := #[.val (.int a), .val (.int b), .val (.int c), .val (.int d), .val (.int fl), .val (.int b2), .val (.int c2), .val (.int d2), .val (.int f1), .val (.int f2), .val (.ref t), .val (.int (Int32.ofNat ps.length)), .val (.ref arr), .val (.int (ky ps 0)), .val (.ref ar2)]) rfl ?_
            refine Go.aload D (pc' := 456) at_454 rfl rfl rfl ?_
            refine Go.alen D (pc' := 457) at_456 rfl B6 ?_
            refine Go.iload D (pc' := 459) at_457 rfl rfl ?_
            refine Go.icmp D (pc' := 471) (pc2 := 462) at_459 (by decide) (by decide) rfl ?_ ?_
            · intro (hc459 : ¬ (Int32.ofNat ps.length) = (Int32.ofNat ps.length))
              exact absurd rfl hc459
            · intro (hc459 : (Int32.ofNat ps.length) = (Int32.ofNat ps.length))
              refine Go.aload D (pc' := 464) at_462 rfl rfl rfl ?_
              refine Go.iconst D (pc' := 465) at_464 rfl (v := (0 : Int32)) rfl ?_
              refine Go.iaload D (pc' := 466) at_465 rfl B6 (by decide) ((own_lt (i := 0) (j := ps.length) (by omega) (by omega)).mpr hi) (v := .int (ky ps 0)) (by rw [show (0 : Int32).toNatClampNeg = 0 from rfl]; exact vc_at hi) ?_
              refine Go.iload D (pc' := 468) at_466 rfl rfl ?_
              refine Go.icmp D (pc' := 473) (pc2 := 471) at_468 (by decide) (by decide) rfl ?_ ?_
              · intro (hc468 : (ky ps 0) = (ky ps 0))
                refine Go.iconst D (pc' := 474) at_473 rfl (v := (1 : Int32)) rfl ?_
                refine Go.zret D rfl rfl at_474 (by decide) (by decide) ?_
                exact rfl
              · intro (hc468 : ¬ (ky ps 0) = (ky ps 0))
                exact absurd rfl hc468
        have J387 : Go κ hb 12 78 387 #[.val (.int a), .val (.int b), .val (.int c), .val (.int d), .val (.int fl), .val (.int b2), .val (.int c2), .val (.int d2), .val (.int f1), .val (.int f2), .val (.ref t), .val (.int (Int32.ofNat ps.length)), .val (.ref arr), .unset, .unset] [] := by
          refine Go.iload D (pc' := 389) at_387 rfl rfl ?_
          refine Go.iconst D (pc' := 390) at_389 rfl (v := (4 : Int32)) rfl ?_
          refine Go.icmp D (pc' := 427) (pc2 := 393) at_390 (by decide) (by decide) rfl ?_ ?_
          · intro (hc390 : (Int32.ofNat ps.length) < (4 : Int32))
            exact J427
          · intro (hc390 : ¬ (Int32.ofNat ps.length) < (4 : Int32))
            have hi : 3 < ps.length := by
              have q := mt (own_lt (i := ps.length) (j := 4) (by omega) (by omega)).mpr hc390
              omega
            refine Go.aload D (pc' := 395) at_393 rfl rfl rfl ?_
            refine Go.iconst D (pc' := 396) at_395 rfl (v := (2 : Int32)) rfl ?_
            refine Go.iaload D (pc' := 397) at_396 rfl B (by decide) ((own_lt (i := 2) (j := ps.length) (by omega) (by omega)).mpr (by omega)) (v := .int (ky ps 2)) (by rw [show (2 : Int32).toNatClampNeg = 2 from rfl]; exact vc_at (by omega)) ?_
            refine Go.aload D (pc' := 399) at_397 rfl rfl rfl ?_
            refine Go.iconst D (pc' := 400) at_399 rfl (v := (3 : Int32)) rfl ?_
            refine Go.iaload D (pc' := 401) at_400 rfl B (by decide) ((own_lt (i := 3) (j := ps.length) (by omega) (by omega)).mpr hi) (v := .int (ky ps 3)) (by rw [show (3 : Int32).toNatClampNeg = 3 from rfl]; exact vc_at hi) ?_
            refine Go.icmp D (pc' := 425) (pc2 := 404) at_401 (by decide) (by decide) rfl ?_ ?_
            · intro (hc401 : ¬ (ky ps 2) < (ky ps 3))
              exact absurd (ky_lt hs (by decide : 2 < 3) hi) hc401
            · intro (hc401 : (ky ps 2) < (ky ps 3))
              refine Go.aload D (pc' := 406) at_404 rfl rfl rfl ?_
              refine Go.iconst D (pc' := 407) at_406 rfl (v := (3 : Int32)) rfl ?_
              refine Go.iaload D (pc' := 408) at_407 rfl B (by decide) ((own_lt (i := 3) (j := ps.length) (by omega) (by omega)).mpr hi) (v := .int (ky ps 3)) (by rw [show (3 : Int32).toNatClampNeg = 3 from rfl]; exact vc_at hi) ?_
              refine Go.iloadN D (pc' := 409) at_408 rfl rfl ?_
              refine Go.iload D (pc' := 411) at_409 rfl rfl ?_
              refine Go.iload D (pc' := 413) at_411 rfl rfl ?_
              refine Go.iload D (pc' := 415) at_413 rfl rfl ?_
              refine Go.iload D (pc' := 417) at_415 rfl rfl ?_
              refine Go.iload D (pc' := 419) at_417 rfl rfl ?_
              refine Go.callS D (argsL := [(.int (ky ps 3)), (.int a), (.int b2), (.int c2), (.int d2), (.int f1), (.int f2)]) (rest := []) (pc' := 422) (ce' := 12) (sl' := 78) (con_held l Z a0 hw hb n0 (ky ps 3) a b2 c2 d2 f1 f2) (hw _ (List.mem_of_getElem? (i := 45) rfl)) (hw _ (List.mem_of_getElem? (i := 46) rfl)) (hw _ (List.mem_of_getElem? (i := 47) rfl)) (hw _ (List.mem_of_getElem? (i := 48) rfl)) (by decide) at_419 rfl pd9 rfl rfl rfl (by decide) (W := 0) rfl (by decide) (by decide) (by decide) (by decide) (by decide) ?_
              intro v419 h419 q419
              obtain ⟨rfl, r419, rfl, hr419⟩ := q419
              show Go κ hb 12 78 422 #[.val (.int a), .val (.int b), .val (.int c), .val (.int d), .val (.int fl), .val (.int b2), .val (.int c2), .val (.int d2), .val (.int f1), .val (.int f2), .val (.ref t), .val (.int (Int32.ofNat ps.length)), .val (.ref arr), .unset, .unset] [(.int r419)]
              refine Go.ifc D (pc' := 427) (pc2 := 425) at_422 (by decide) (by decide) rfl ?_ ?_
              · intro (hc422 : ¬ r419 = 0)
                exact J427
              · intro (hc422 : r419 = 0)
                exact absurd (hr419.n hc422) (by have q1 := hcnt (ky ps 3); have q2 := ky_pos hc4 hi; unfold HE; omega)
        have J347 : Go κ hb 12 78 347 #[.val (.int a), .val (.int b), .val (.int c), .val (.int d), .val (.int fl), .val (.int b2), .val (.int c2), .val (.int d2), .val (.int f1), .val (.int f2), .val (.ref t), .val (.int (Int32.ofNat ps.length)), .val (.ref arr), .unset, .unset] [] := by
          refine Go.iload D (pc' := 349) at_347 rfl rfl ?_
          refine Go.iconst D (pc' := 350) at_349 rfl (v := (3 : Int32)) rfl ?_
          refine Go.icmp D (pc' := 387) (pc2 := 353) at_350 (by decide) (by decide) rfl ?_ ?_
          · intro (hc350 : (Int32.ofNat ps.length) < (3 : Int32))
            exact J387
          · intro (hc350 : ¬ (Int32.ofNat ps.length) < (3 : Int32))
            have hi : 2 < ps.length := by
              have q := mt (own_lt (i := ps.length) (j := 3) (by omega) (by omega)).mpr hc350
              omega
            refine Go.aload D (pc' := 355) at_353 rfl rfl rfl ?_
            refine Go.iconst D (pc' := 356) at_355 rfl (v := (1 : Int32)) rfl ?_
            refine Go.iaload D (pc' := 357) at_356 rfl B (by decide) ((own_lt (i := 1) (j := ps.length) (by omega) (by omega)).mpr (by omega)) (v := .int (ky ps 1)) (by rw [show (1 : Int32).toNatClampNeg = 1 from rfl]; exact vc_at (by omega)) ?_
            refine Go.aload D (pc' := 359) at_357 rfl rfl rfl ?_
            refine Go.iconst D (pc' := 360) at_359 rfl (v := (2 : Int32)) rfl ?_
            refine Go.iaload D (pc' := 361) at_360 rfl B (by decide) ((own_lt (i := 2) (j := ps.length) (by omega) (by omega)).mpr hi) (v := .int (ky ps 2)) (by rw [show (2 : Int32).toNatClampNeg = 2 from rfl]; exact vc_at hi) ?_
            refine Go.icmp D (pc' := 385) (pc2 := 364) at_361 (by decide) (by decide) rfl ?_ ?_
            · intro (hc361 : ¬ (ky ps 1) < (ky ps 2))
              exact absurd (ky_lt hs (by decide : 1 < 2) hi) hc361
            · intro (hc361 : (ky ps 1) < (ky ps 2))
              refine Go.aload D (pc' := 366) at_364 rfl rfl rfl ?_
              refine Go.iconst D (pc' := 367) at_366 rfl (v := (2 : Int32)) rfl ?_
              refine Go.iaload D (pc' := 368) at_367 rfl B (by decide) ((own_lt (i := 2) (j := ps.length) (by omega) (by omega)).mpr hi) (v := .int (ky ps 2)) (by rw [show (2 : Int32).toNatClampNeg = 2 from rfl]; exact vc_at hi) ?_
              refine Go.iloadN D (pc' := 369) at_368 rfl rfl ?_
              refine Go.iload D (pc' := 371) at_369 rfl rfl ?_
              refine Go.iload D (pc' := 373) at_371 rfl rfl ?_
              refine Go.iload D (pc' := 375) at_373 rfl rfl ?_
              refine Go.iload D (pc' := 377) at_375 rfl rfl ?_
              refine Go.iload D (pc' := 379) at_377 rfl rfl ?_
              refine Go.callS D (argsL := [(.int (ky ps 2)), (.int a), (.int b2), (.int c2), (.int d2), (.int f1), (.int f2)]) (rest := []) (pc' := 382) (ce' := 12) (sl' := 78) (con_held l Z a0 hw hb n0 (ky ps 2) a b2 c2 d2 f1 f2) (hw _ (List.mem_of_getElem? (i := 45) rfl)) (hw _ (List.mem_of_getElem? (i := 46) rfl)) (hw _ (List.mem_of_getElem? (i := 47) rfl)) (hw _ (List.mem_of_getElem? (i := 48) rfl)) (by decide) at_379 rfl pd9 rfl rfl rfl (by decide) (W := 0) rfl (by decide) (by decide) (by decide) (by decide) (by decide) ?_
              intro v379 h379 q379
              obtain ⟨rfl, r379, rfl, hr379⟩ := q379
              show Go κ hb 12 78 382 #[.val (.int a), .val (.int b), .val (.int c), .val (.int d), .val (.int fl), .val (.int b2), .val (.int c2), .val (.int d2), .val (.int f1), .val (.int f2), .val (.ref t), .val (.int (Int32.ofNat ps.length)), .val (.ref arr), .unset, .unset] [(.int r379)]
              refine Go.ifc D (pc' := 387) (pc2 := 385) at_382 (by decide) (by decide) rfl ?_ ?_
              · intro (hc382 : ¬ r379 = 0)
                exact J387
              · intro (hc382 : r379 = 0)
                exact absurd (hr379.n hc382) (by have q1 := hcnt (ky ps 2); have q2 := ky_pos hc4 hi; unfold HE; omega)
        have J307 : Go κ hb 12 78 307 #[.val (.int a), .val (.int b), .val (.int c), .val (.int d), .val (.int fl), .val (.int b2), .val (.int c2), .val (.int d2), .val (.int f1), .val (.int f2), .val (.ref t), .val (.int (Int32.ofNat ps.length)), .val (.ref arr), .unset, .unset] [] := by
          refine Go.iload D (pc' := 309) at_307 rfl rfl ?_
          refine Go.iconst D (pc' := 310) at_309 rfl (v := (2 : Int32)) rfl ?_
          refine Go.icmp D (pc' := 347) (pc2 := 313) at_310 (by decide) (by decide) rfl ?_ ?_
          · intro (hc310 : (Int32.ofNat ps.length) < (2 : Int32))
            exact J347
          · intro (hc310 : ¬ (Int32.ofNat ps.length) < (2 : Int32))
            have hi : 1 < ps.length := by
              have q := mt (own_lt (i := ps.length) (j := 2) (by omega) (by omega)).mpr hc310
              omega
            refine Go.aload D (pc' := 315) at_313 rfl rfl rfl ?_
            refine Go.iconst D (pc' := 316) at_315 rfl (v := (0 : Int32)) rfl ?_
            refine Go.iaload D (pc' := 317) at_316 rfl B (by decide) ((own_lt (i := 0) (j := ps.length) (by omega) (by omega)).mpr (by omega)) (v := .int (ky ps 0)) (by rw [show (0 : Int32).toNatClampNeg = 0 from rfl]; exact vc_at (by omega)) ?_
            refine Go.aload D (pc' := 319) at_317 rfl rfl rfl ?_
            refine Go.iconst D (pc' := 320) at_319 rfl (v := (1 : Int32)) rfl ?_
            refine Go.iaload D (pc' := 321) at_320 rfl B (by decide) ((own_lt (i := 1) (j := ps.length) (by omega) (by omega)).mpr hi) (v := .int (ky ps 1)) (by rw [show (1 : Int32).toNatClampNeg = 1 from rfl]; exact vc_at hi) ?_
            refine Go.icmp D (pc' := 345) (pc2 := 324) at_321 (by decide) (by decide) rfl ?_ ?_
            · intro (hc321 : ¬ (ky ps 0) < (ky ps 1))
              exact absurd (ky_lt hs (by decide : 0 < 1) hi) hc321
            · intro (hc321 : (ky ps 0) < (ky ps 1))
              refine Go.aload D (pc' := 326) at_324 rfl rfl rfl ?_
              refine Go.iconst D (pc' := 327) at_326 rfl (v := (1 : Int32)) rfl ?_
              refine Go.iaload D (pc' := 328) at_327 rfl B (by decide) ((own_lt (i := 1) (j := ps.length) (by omega) (by omega)).mpr hi) (v := .int (ky ps 1)) (by rw [show (1 : Int32).toNatClampNeg = 1 from rfl]; exact vc_at hi) ?_
              refine Go.iloadN D (pc' := 329) at_328 rfl rfl ?_
              refine Go.iload D (pc' := 331) at_329 rfl rfl ?_
              refine Go.iload D (pc' := 333) at_331 rfl rfl ?_
              refine Go.iload D (pc' := 335) at_333 rfl rfl ?_
              refine Go.iload D (pc' := 337) at_335 rfl rfl ?_
              refine Go.iload D (pc' := 339) at_337 rfl rfl ?_
              refine Go.callS D (argsL := [(.int (ky ps 1)), (.int a), (.int b2), (.int c2), (.int d2), (.int f1), (.int f2)]) (rest := []) (pc' := 342) (ce' := 12) (sl' := 78) (con_held l Z a0 hw hb n0 (ky ps 1) a b2 c2 d2 f1 f2) (hw _ (List.mem_of_getElem? (i := 45) rfl)) (hw _ (List.mem_of_getElem? (i := 46) rfl)) (hw _ (List.mem_of_getElem? (i := 47) rfl)) (hw _ (List.mem_of_getElem? (i := 48) rfl)) (by decide) at_339 rfl pd9 rfl rfl rfl (by decide) (W := 0) rfl (by decide) (by decide) (by decide) (by decide) (by decide) ?_
              intro v339 h339 q339
              obtain ⟨rfl, r339, rfl, hr339⟩ := q339
              show Go κ hb 12 78 342 #[.val (.int a), .val (.int b), .val (.int c), .val (.int d), .val (.int fl), .val (.int b2), .val (.int c2), .val (.int d2), .val (.int f1), .val (.int f2), .val (.ref t), .val (.int (Int32.ofNat ps.length)), .val (.ref arr), .unset, .unset] [(.int r339)]
              refine Go.ifc D (pc' := 347) (pc2 := 345) at_342 (by decide) (by decide) rfl ?_ ?_
              · intro (hc342 : ¬ r339 = 0)
                exact J347
              · intro (hc342 : r339 = 0)
                exact absurd (hr339.n hc342) (by have q1 := hcnt (ky ps 1); have q2 := ky_pos hc4 hi; unfold HE; omega)
        have J278 : Go κ hb 12 78 278 #[.val (.int a), .val (.int b), .val (.int c), .val (.int d), .val (.int fl), .val (.int b2), .val (.int c2), .val (.int d2), .val (.int f1), .val (.int f2), .val (.ref t), .val (.int (Int32.ofNat ps.length)), .val (.ref arr), .unset, .unset] [] := by
          refine Go.iload D (pc' := 280) at_278 rfl rfl ?_
          refine Go.iconst D (pc' := 281) at_280 rfl (v := (1 : Int32)) rfl ?_
          refine Go.icmp D (pc' := 307) (pc2 := 284) at_281 (by decide) (by decide) rfl ?_ ?_
          · intro (hc281 : (Int32.ofNat ps.length) < (1 : Int32))
            exact J307
          · intro (hc281 : ¬ (Int32.ofNat ps.length) < (1 : Int32))
            have hi : 0 < ps.length := by
              have q := mt (own_lt (i := ps.length) (j := 1) (by omega) (by omega)).mpr hc281
              omega
            refine Go.aload D (pc' := 286) at_284 rfl rfl rfl ?_
            refine Go.iconst D (pc' := 287) at_286 rfl (v := (0 : Int32)) rfl ?_
            refine Go.iaload D (pc' := 288) at_287 rfl B (by decide) ((own_lt (i := 0) (j := ps.length) (by omega) (by omega)).mpr hi) (v := .int (ky ps 0)) (by rw [show (0 : Int32).toNatClampNeg = 0 from rfl]; exact vc_at hi) ?_
            refine Go.iloadN D (pc' := 289) at_288 rfl rfl ?_
            refine Go.iload D (pc' := 291) at_289 rfl rfl ?_
            refine Go.iload D (pc' := 293) at_291 rfl rfl ?_
            refine Go.iload D (pc' := 295) at_293 rfl rfl ?_
            refine Go.iload D (pc' := 297) at_295 rfl rfl ?_
            refine Go.iload D (pc' := 299) at_297 rfl rfl ?_
            refine Go.callS D (argsL := [(.int (ky ps 0)), (.int a), (.int b2), (.int c2), (.int d2), (.int f1), (.int f2)]) (rest := []) (pc' := 302) (ce' := 12) (sl' := 78) (con_held l Z a0 hw hb n0 (ky ps 0) a b2 c2 d2 f1 f2) (hw _ (List.mem_of_getElem? (i := 45) rfl)) (hw _ (List.mem_of_getElem? (i := 46) rfl)) (hw _ (List.mem_of_getElem? (i := 47) rfl)) (hw _ (List.mem_of_getElem? (i := 48) rfl)) (by decide) at_299 rfl pd9 rfl rfl rfl (by decide) (W := 0) rfl (by decide) (by decide) (by decide) (by decide) (by decide) ?_
            intro v299 h299 q299
            obtain ⟨rfl, r299, rfl, hr299⟩ := q299
            show Go κ hb 12 78 302 #[.val (.int a), .val (.int b), .val (.int c), .val (.int d), .val (.int fl), .val (.int b2), .val (.int c2), .val (.int d2), .val (.int f1), .val (.int f2), .val (.ref t), .val (.int (Int32.ofNat ps.length)), .val (.ref arr), .unset, .unset] [(.int r299)]
            refine Go.ifc D (pc' := 307) (pc2 := 305) at_302 (by decide) (by decide) rfl ?_ ?_
            · intro (hc302 : ¬ r299 = 0)
              exact J307
            · intro (hc302 : r299 = 0)
              exact absurd (hr299.n hc302) (by have q1 := hcnt (ky ps 0); have q2 := ky_pos hc4 hi; unfold HE; omega)
        exact J278
      · intro (hc273 : ¬ (Int32.ofNat ps.length) = (Int32.ofNat ps.length))
        exact absurd rfl hc273
    have J219 : ∀ L : List Int32, L.Nodup → (∀ x, x ∈ L ↔ (x = a ∨ x = b2 ∨ x = c2) ∧ 0 < cnt ps x) → Go κ hz 11 70 219 #[.val (.int a), .val (.int b), .val (.int c), .val (.int d), .val (.int fl), .val (.int b2), .val (.int c2), .val (.int d2), .val (.int f1), .val (.int f2), .val (.ref t), .val (.int (Int32.ofNat L.length)), .unset, .unset, .unset] [] := by
      intro L hL hm
      refine Go.iload D (pc' := 221) at_219 rfl rfl ?_
      refine Go.iloadN D (pc' := 222) at_221 rfl rfl ?_
      refine Go.icmp D (pc' := 261) (pc2 := 225) at_222 (by decide) (by decide) rfl ?_ ?_
      · intro (hc222 : d2 = a)
        have e := len_eq hs hc4 hL (L := L) (fun x => ((show _ from (fun x => by have q := hm x; grind) x) : x ∈ L ↔ (x = a ∨ x = b2 ∨ x = c2 ∨ x = d2) ∧ 0 < cnt ps x).trans ⟨fun z => z.2, fun z => ⟨hall x z, z⟩⟩)
        rw [e]
        exact J261
      · intro (hc222 : ¬ d2 = a)
        refine Go.iload D (pc' := 227) at_225 rfl rfl ?_
        refine Go.iload D (pc' := 229) at_227 rfl rfl ?_
        refine Go.icmp D (pc' := 261) (pc2 := 232) at_229 (by decide) (by decide) rfl ?_ ?_
        · intro (hc229 : d2 = b2)
          have e := len_eq hs hc4 hL (L := L) (fun x => ((show _ from (fun x => by have q := hm x; grind) x) : x ∈ L ↔ (x = a ∨ x = b2 ∨ x = c2 ∨ x = d2) ∧ 0 < cnt ps x).trans ⟨fun z => z.2, fun z => ⟨hall x z, z⟩⟩)
          rw [e]
          exact J261
        · intro (hc229 : ¬ d2 = b2)
          refine Go.iload D (pc' := 234) at_232 rfl rfl ?_
          refine Go.iload D (pc' := 236) at_234 rfl rfl ?_
          refine Go.icmp D (pc' := 261) (pc2 := 239) at_236 (by decide) (by decide) rfl ?_ ?_
          · intro (hc236 : d2 = c2)
            have e := len_eq hs hc4 hL (L := L) (fun x => ((show _ from (fun x => by have q := hm x; grind) x) : x ∈ L ↔ (x = a ∨ x = b2 ∨ x = c2 ∨ x = d2) ∧ 0 < cnt ps x).trans ⟨fun z => z.2, fun z => ⟨hall x z, z⟩⟩)
            rw [e]
            exact J261
          · intro (hc236 : ¬ d2 = c2)
            refine Go.iload D (pc' := 241) at_239 rfl rfl ?_
            refine Go.iloadN D (pc' := 242) at_241 rfl rfl ?_
            refine Go.iload D (pc' := 244) at_242 rfl rfl ?_
            refine Go.iload D (pc' := 246) at_244 rfl rfl ?_
            refine Go.iload D (pc' := 248) at_246 rfl rfl ?_
            refine Go.iload D (pc' := 250) at_248 rfl rfl ?_
            refine Go.iload D (pc' := 252) at_250 rfl rfl ?_
            refine Go.callS D (argsL := [(.int d2), (.int a), (.int b2), (.int c2), (.int d2), (.int f1), (.int f2)]) (rest := []) (pc' := 255) (ce' := 11) (sl' := 70) (con_held l Z a0 hw hz n0 d2 a b2 c2 d2 f1 f2) (hw _ (List.mem_of_getElem? (i := 45) rfl)) (hw _ (List.mem_of_getElem? (i := 46) rfl)) (hw _ (List.mem_of_getElem? (i := 47) rfl)) (hw _ (List.mem_of_getElem? (i := 48) rfl)) (by decide) at_252 rfl pd9 rfl rfl rfl (by decide) (W := 0) rfl (by decide) (by decide) (by decide) (by decide) (by decide) ?_
            intro v252 h252 q252
            obtain ⟨rfl, r252, rfl, hr252⟩ := q252
            show Go κ hz 11 70 255 #[.val (.int a), .val (.int b), .val (.int c), .val (.int d), .val (.int fl), .val (.int b2), .val (.int c2), .val (.int d2), .val (.int f1), .val (.int f2), .val (.ref t), .val (.int (Int32.ofNat L.length)), .unset, .unset, .unset] [(.int r252)]
            refine Go.ifc D (pc' := 261) (pc2 := 258) at_255 (by decide) (by decide) rfl ?_ ?_
            · intro (hc255 : r252 = 0)
              have q1 := hcnt d2
              have q2 : ¬ 0 < cnt ps d2 := by have q := hr252.n hc255; unfold HE at q; omega
              have e := len_eq hs hc4 hL (L := L) (fun x => ((show _ from (fun x => by have q := hm x; grind) x) : x ∈ L ↔ (x = a ∨ x = b2 ∨ x = c2 ∨ x = d2) ∧ 0 < cnt ps x).trans ⟨fun z => z.2, fun z => ⟨hall x z, z⟩⟩)
              rw [e]
              exact J261
            · intro (hc255 : ¬ r252 = 0)
              refine Go.iinc D (pc' := 261) at_258 rfl rfl (d := (1 : Int32)) rfl (ls' := #[.val (.int a), .val (.int b), .val (.int c), .val (.int d), .val (.int fl), .val (.int b2), .val (.int c2), .val (.int d2), .val (.int f1), .val (.int f2), .val (.ref t), .val (.int ((Int32.ofNat L.length) + (1 : Int32))), .unset, .unset, .unset]) rfl ?_
              have q1 := hcnt d2
              have q2 : 0 < cnt ps d2 := by have q := hr252.y hc255; unfold HE at q; omega
              rw [own_succ]
              have e := len_eq hs hc4 (List.nodup_cons.mpr ⟨by rw [hm]; grind, hL⟩) (L := (d2 :: L)) (fun x => ((show _ from (fun x => by have q := hm x; rw [List.mem_cons]; grind) x) : x ∈ (d2 :: L) ↔ (x = a ∨ x = b2 ∨ x = c2 ∨ x = d2) ∧ 0 < cnt ps x).trans ⟨fun z => z.2, fun z => ⟨hall x z, z⟩⟩)
              show Go _ _ _ _ _ #[.val (.int a), .val (.int b), .val (.int c), .val (.int d), .val (.int fl), .val (.int b2), .val (.int c2), .val (.int d2), .val (.int f1), .val (.int f2), .val (.ref t), .val (.int (Int32.ofNat (d2 :: L).length)), .unset, .unset, .unset] _
              rw [e]
              exact J261
    have J184 : ∀ L : List Int32, L.Nodup → (∀ x, x ∈ L ↔ (x = a ∨ x = b2) ∧ 0 < cnt ps x) → Go κ hz 11 70 184 #[.val (.int a), .val (.int b), .val (.int c), .val (.int d), .val (.int fl), .val (.int b2), .val (.int c2), .val (.int d2), .val (.int f1), .val (.int f2), .val (.ref t), .val (.int (Int32.ofNat L.length)), .unset, .unset, .unset] [] := by
      intro L hL hm
      refine Go.iload D (pc' := 186) at_184 rfl rfl ?_
      refine Go.iloadN D (pc' := 187) at_186 rfl rfl ?_
      refine Go.icmp D (pc' := 219) (pc2 := 190) at_187 (by decide) (by decide) rfl ?_ ?_
      · intro (hc187 : c2 = a)
        exact J219 L hL (fun x => by have q := hm x; grind)
      · intro (hc187 : ¬ c2 = a)
        refine Go.iload D (pc' := 192) at_190 rfl rfl ?_
        refine Go.iload D (pc' := 194) at_192 rfl rfl ?_
        refine Go.icmp D (pc' := 219) (pc2 := 197) at_194 (by decide) (by decide) rfl ?_ ?_
        · intro (hc194 : c2 = b2)
          exact J219 L hL (fun x => by have q := hm x; grind)
        · intro (hc194 : ¬ c2 = b2)
          refine Go.iload D (pc' := 199) at_197 rfl rfl ?_
          refine Go.iloadN D (pc' := 200) at_199 rfl rfl ?_
          refine Go.iload D (pc' := 202) at_200 rfl rfl ?_
          refine Go.iload D (pc' := 204) at_202 rfl rfl ?_
          refine Go.iload D (pc' := 206) at_204 rfl rfl ?_
          refine Go.iload D (pc' := 208) at_206 rfl rfl ?_
          refine Go.iload D (pc' := 210) at_208 rfl rfl ?_
          refine Go.callS D (argsL := [(.int c2), (.int a), (.int b2), (.int c2), (.int d2), (.int f1), (.int f2)]) (rest := []) (pc' := 213) (ce' := 11) (sl' := 70) (con_held l Z a0 hw hz n0 c2 a b2 c2 d2 f1 f2) (hw _ (List.mem_of_getElem? (i := 45) rfl)) (hw _ (List.mem_of_getElem? (i := 46) rfl)) (hw _ (List.mem_of_getElem? (i := 47) rfl)) (hw _ (List.mem_of_getElem? (i := 48) rfl)) (by decide) at_210 rfl pd9 rfl rfl rfl (by decide) (W := 0) rfl (by decide) (by decide) (by decide) (by decide) (by decide) ?_
          intro v210 h210 q210
          obtain ⟨rfl, r210, rfl, hr210⟩ := q210
          show Go κ hz 11 70 213 #[.val (.int a), .val (.int b), .val (.int c), .val (.int d), .val (.int fl), .val (.int b2), .val (.int c2), .val (.int d2), .val (.int f1), .val (.int f2), .val (.ref t), .val (.int (Int32.ofNat L.length)), .unset, .unset, .unset] [(.int r210)]
          refine Go.ifc D (pc' := 219) (pc2 := 216) at_213 (by decide) (by decide) rfl ?_ ?_
          · intro (hc213 : r210 = 0)
            have q1 := hcnt c2
            have q2 : ¬ 0 < cnt ps c2 := by have q := hr210.n hc213; unfold HE at q; omega
            exact J219 L hL (fun x => by have q := hm x; grind)
          · intro (hc213 : ¬ r210 = 0)
            refine Go.iinc D (pc' := 219) at_216 rfl rfl (d := (1 : Int32)) rfl (ls' := #[.val (.int a), .val (.int b), .val (.int c), .val (.int d), .val (.int fl), .val (.int b2), .val (.int c2), .val (.int d2), .val (.int f1), .val (.int f2), .val (.ref t), .val (.int ((Int32.ofNat L.length) + (1 : Int32))), .unset, .unset, .unset]) rfl ?_
            have q1 := hcnt c2
            have q2 : 0 < cnt ps c2 := by have q := hr210.y hc213; unfold HE at q; omega
            rw [own_succ]
            exact J219 (c2 :: L) (List.nodup_cons.mpr ⟨by rw [hm]; grind, hL⟩) (fun x => by have q := hm x; rw [List.mem_cons]; grind)
    have J156 : ∀ L : List Int32, L.Nodup → (∀ x, x ∈ L ↔ (x = a) ∧ 0 < cnt ps x) → Go κ hz 11 70 156 #[.val (.int a), .val (.int b), .val (.int c), .val (.int d), .val (.int fl), .val (.int b2), .val (.int c2), .val (.int d2), .val (.int f1), .val (.int f2), .val (.ref t), .val (.int (Int32.ofNat L.length)), .unset, .unset, .unset] [] := by
      intro L hL hm
      refine Go.iload D (pc' := 158) at_156 rfl rfl ?_
      refine Go.iloadN D (pc' := 159) at_158 rfl rfl ?_
      refine Go.icmp D (pc' := 184) (pc2 := 162) at_159 (by decide) (by decide) rfl ?_ ?_
      · intro (hc159 : b2 = a)
        exact J184 L hL (fun x => by have q := hm x; grind)
      · intro (hc159 : ¬ b2 = a)
        refine Go.iload D (pc' := 164) at_162 rfl rfl ?_
        refine Go.iloadN D (pc' := 165) at_164 rfl rfl ?_
        refine Go.iload D (pc' := 167) at_165 rfl rfl ?_
        refine Go.iload D (pc' := 169) at_167 rfl rfl ?_
        refine Go.iload D (pc' := 171) at_169 rfl rfl ?_
        refine Go.iload D (pc' := 173) at_171 rfl rfl ?_
        refine Go.iload D (pc' := 175) at_173 rfl rfl ?_
        refine Go.callS D (argsL := [(.int b2), (.int a), (.int b2), (.int c2), (.int d2), (.int f1), (.int f2)]) (rest := []) (pc' := 178) (ce' := 11) (sl' := 70) (con_held l Z a0 hw hz n0 b2 a b2 c2 d2 f1 f2) (hw _ (List.mem_of_getElem? (i := 45) rfl)) (hw _ (List.mem_of_getElem? (i := 46) rfl)) (hw _ (List.mem_of_getElem? (i := 47) rfl)) (hw _ (List.mem_of_getElem? (i := 48) rfl)) (by decide) at_175 rfl pd9 rfl rfl rfl (by decide) (W := 0) rfl (by decide) (by decide) (by decide) (by decide) (by decide) ?_
        intro v175 h175 q175
        obtain ⟨rfl, r175, rfl, hr175⟩ := q175
        show Go κ hz 11 70 178 #[.val (.int a), .val (.int b), .val (.int c), .val (.int d), .val (.int fl), .val (.int b2), .val (.int c2), .val (.int d2), .val (.int f1), .val (.int f2), .val (.ref t), .val (.int (Int32.ofNat L.length)), .unset, .unset, .unset] [(.int r175)]
        refine Go.ifc D (pc' := 184) (pc2 := 181) at_178 (by decide) (by decide) rfl ?_ ?_
        · intro (hc178 : r175 = 0)
          have q1 := hcnt b2
          have q2 : ¬ 0 < cnt ps b2 := by have q := hr175.n hc178; unfold HE at q; omega
          exact J184 L hL (fun x => by have q := hm x; grind)
        · intro (hc178 : ¬ r175 = 0)
          refine Go.iinc D (pc' := 184) at_181 rfl rfl (d := (1 : Int32)) rfl (ls' := #[.val (.int a), .val (.int b), .val (.int c), .val (.int d), .val (.int fl), .val (.int b2), .val (.int c2), .val (.int d2), .val (.int f1), .val (.int f2), .val (.ref t), .val (.int ((Int32.ofNat L.length) + (1 : Int32))), .unset, .unset, .unset]) rfl ?_
          have q1 := hcnt b2
          have q2 : 0 < cnt ps b2 := by have q := hr175.y hc178; unfold HE at q; omega
          rw [own_succ]
          exact J184 (b2 :: L) (List.nodup_cons.mpr ⟨by rw [hm]; grind, hL⟩) (fun x => by have q := hm x; rw [List.mem_cons]; grind)
    have J135 : ∀ L : List Int32, L.Nodup → (∀ x, x ∈ L ↔ (False) ∧ 0 < cnt ps x) → Go κ hz 11 70 135 #[.val (.int a), .val (.int b), .val (.int c), .val (.int d), .val (.int fl), .val (.int b2), .val (.int c2), .val (.int d2), .val (.int f1), .val (.int f2), .val (.ref t), .val (.int (Int32.ofNat L.length)), .unset, .unset, .unset] [] := by
      intro L hL hm
      refine Go.iloadN D (pc' := 136) at_135 rfl rfl ?_
      refine Go.iloadN D (pc' := 137) at_136 rfl rfl ?_
      refine Go.iload D (pc' := 139) at_137 rfl rfl ?_
      refine Go.iload D (pc' := 141) at_139 rfl rfl ?_
      refine Go.iload D (pc' := 143) at_141 rfl rfl ?_
      refine Go.iload D (pc' := 145) at_143 rfl rfl ?_
      refine Go.iload D (pc' := 147) at_145 rfl rfl ?_
      refine Go.callS D (argsL := [(.int a), (.int a), (.int b2), (.int c2), (.int d2), (.int f1), (.int f2)]) (rest := []) (pc' := 150) (ce' := 11) (sl' := 70) (con_held l Z a0 hw hz n0 a a b2 c2 d2 f1 f2) (hw _ (List.mem_of_getElem? (i := 45) rfl)) (hw _ (List.mem_of_getElem? (i := 46) rfl)) (hw _ (List.mem_of_getElem? (i := 47) rfl)) (hw _ (List.mem_of_getElem? (i := 48) rfl)) (by decide) at_147 rfl pd9 rfl rfl rfl (by decide) (W := 0) rfl (by decide) (by decide) (by decide) (by decide) (by decide) ?_
      intro v147 h147 q147
      obtain ⟨rfl, r147, rfl, hr147⟩ := q147
      show Go κ hz 11 70 150 #[.val (.int a), .val (.int b), .val (.int c), .val (.int d), .val (.int fl), .val (.int b2), .val (.int c2), .val (.int d2), .val (.int f1), .val (.int f2), .val (.ref t), .val (.int (Int32.ofNat L.length)), .unset, .unset, .unset] [(.int r147)]
      refine Go.ifc D (pc' := 156) (pc2 := 153) at_150 (by decide) (by decide) rfl ?_ ?_
      · intro (hc150 : r147 = 0)
        have q1 := hcnt a
        have q2 : ¬ 0 < cnt ps a := by have q := hr147.n hc150; unfold HE at q; omega
        exact J156 L hL (fun x => by have q := hm x; grind)
      · intro (hc150 : ¬ r147 = 0)
        refine Go.iinc D (pc' := 156) at_153 rfl rfl (d := (1 : Int32)) rfl (ls' := #[.val (.int a), .val (.int b), .val (.int c), .val (.int d), .val (.int fl), .val (.int b2), .val (.int c2), .val (.int d2), .val (.int f1), .val (.int f2), .val (.ref t), .val (.int ((Int32.ofNat L.length) + (1 : Int32))), .unset, .unset, .unset]) rfl ?_
        have q1 := hcnt a
        have q2 : 0 < cnt ps a := by have q := hr147.y hc150; unfold HE at q; omega
        rw [own_succ]
        exact J156 (a :: L) (List.nodup_cons.mpr ⟨by rw [hm]; grind, hL⟩) (fun x => by have q := hm x; rw [List.mem_cons]; grind)
    refine Go.iconst D (pc' := 133) at_132 rfl (v := (0 : Int32)) rfl ?_
    refine Go.istore D (pc' := 135) at_133 rfl (ls' := #[.val (.int a), .val (.int b), .val (.int c), .val (.int d), .val (.int fl), .val (.int b2), .val (.int c2), .val (.int d2), .val (.int f1), .val (.int f2), .val (.ref t), .val (.int (0 : Int32)), .unset, .unset, .unset]) rfl ?_
    exact J135 [] List.nodup_nil (fun x => by simp)
  have J120 : ∀ (b2 c2 d2 f1 f2 : Int32) (t : Addr), ∀ (hz : Heap) (cap : Nat) (ps : List (Int32 × Nat)) (fc : Int64), Tal Z hz n0 t cap ps fc → Srt ps → Cts 4 ps → cap ≤ 9 → (∀ x, (cnt ps x : Int) = ei (a = x) + ei (b2 = x) + ei (c2 = x) + ei (d2 = x) - ei (¬ f1 = 0 ∧ a = x)) → Go κ hz 11 70 120 #[.val (.int a), .val (.int b), .val (.int c), .val (.int d), .val (.int fl), .val (.int b2), .val (.int c2), .val (.int d2), .val (.int f1), .val (.int f2), .val (.ref t), .unset, .unset, .unset, .unset] [] := by
    intro b2 c2 d2 f1 f2 t hz cap ps fc T hs hc4 hcap hcnt
    refine Go.iload D (pc' := 122) at_120 rfl rfl ?_
    refine Go.ifc D (pc' := 132) (pc2 := 125) at_122 (by decide) (by decide) rfl ?_ ?_
    · intro (hc122 : f2 = 0)
      exact J132 b2 c2 d2 f1 f2 t hz cap ps fc T hs hc4 hcap (fun x => by rw [hcnt x, ei_no (f := f2) hc122]; omega)
    · intro (hc122 : ¬ f2 = 0)
      refine Go.aload D (pc' := 127) at_125 rfl rfl rfl ?_
      refine Go.iload D (pc' := 129) at_127 rfl rfl ?_
      have hp : 0 < cnt ps c2 := by
        have q := hcnt c2
        rw [ei_t (p := c2 = c2) rfl] at q
        have z1 := ei_rng (a = c2)
        have z2 := ei_rng (b2 = c2)
        have z3 := ei_rng (d2 = c2)
        by_cases u : f1 = 0
        · rw [ei_no u] at q; omega
        · rw [ei_and u] at q; omega
      refine Go.callV D (argsL := [(.int c2)]) (rest := []) (pc' := 132) (ce' := 11) (sl' := 70) (con_remove l Z a0 hw hz n0 t c2 _ 4 _ _ T hs hc4 (by decide) hcap hp) (hw _ (List.mem_of_getElem? (i := 63) rfl)) (hw _ (List.mem_of_getElem? (i := 64) rfl)) (hw _ (List.mem_of_getElem? (i := 66) rfl)) (hw _ (List.mem_of_getElem? (i := 65) rfl)) (hw _ (List.mem_of_getElem? (i := 2) rfl)) (hw _ (List.mem_of_getElem? (i := 67) rfl)) (nfS (hw _ (List.mem_of_getElem? (i := 66) rfl))) (by decide) T.exa at_129 rfl pd11 rfl rfl rfl (by decide) (W := 0) rfl (by decide) (by decide) (by decide) (by decide) (by decide) ?_
      intro v129 hR q129
      obtain ⟨rfl, psR, fcR, TR, sR, cR, eR, -⟩ := q129
      show Go κ hR 11 70 132 #[.val (.int a), .val (.int b), .val (.int c), .val (.int d), .val (.int fl), .val (.int b2), .val (.int c2), .val (.int d2), .val (.int f1), .val (.int f2), .val (.ref t), .unset, .unset, .unset, .unset] []
      exact J132 b2 c2 d2 f1 f2 t hR cap psR fcR TR sR cR hcap (fun x => by rw [cnt_r (eR x), hcnt x, ei_and (f := f2) hc122])
  have J73 : ∀ (b2 c2 d2 f1 f2 : Int32), Go κ h0 0 0 73 #[.val (.int a), .val (.int b), .val (.int c), .val (.int d), .val (.int fl), .val (.int b2), .val (.int c2), .val (.int d2), .val (.int f1), .val (.int f2), .unset, .unset, .unset, .unset, .unset] [] := by
    intro b2 c2 d2 f1 f2
    refine Go.newO D (pc' := 76) (ce' := 1) (sl' := 4) (hw _ (List.mem_of_getElem? (i := 0) rfl)) (hw _ (List.mem_of_getElem? (i := 1) rfl)) (hw _ (List.mem_of_getElem? (i := 2) rfl)) at_73 rfl rfl rfl (by decide) (by decide) ?_
    intro h1 t gt E1 X1 Dd
    have F1 : FB Z h1 t .null .null 0 0 := ⟨X1, Dd (Or.inl (hw _ (List.mem_of_getElem? (i := 11) rfl))) (ty := .array .int) (by decide), Dd (Or.inl (hw _ (List.mem_of_getElem? (i := 13) rfl))) (ty := .array .int) (by decide), Dd (Or.inl (hw _ (List.mem_of_getElem? (i := 20) rfl))) (ty := .int) (by decide), Dd (Or.inl (hw _ (List.mem_of_getElem? (i := 36) rfl))) (ty := .long) (by decide)⟩
    refine Go.dup D (pc' := 77) at_76 rfl rfl ?_
    refine Go.callI D (argsL := []) (rest := [(.ref t)]) (pc' := 80) (ce' := 3) (sl' := 6) (con_init l Z a0 hw h1 n0 (Nat.le_trans Z0 E1.1) t (by omega) F1) rfl (hw _ (List.mem_of_getElem? (i := 3) rfl)) (hw _ (List.mem_of_getElem? (i := 4) rfl)) (hw _ (List.mem_of_getElem? (i := 2) rfl)) (hw _ (List.mem_of_getElem? (i := 5) rfl)) (by decide) at_77 rfl pd1 rfl rfl rfl (by decide) (W := 1) rfl (by decide) (by decide) (by decide) (by decide) (by decide) ?_
    intro v77 h2 q77
    obtain ⟨rfl, T2⟩ := q77
    show Go κ h2 3 6 80 #[.val (.int a), .val (.int b), .val (.int c), .val (.int d), .val (.int fl), .val (.int b2), .val (.int c2), .val (.int d2), .val (.int f1), .val (.int f2), .unset, .unset, .unset, .unset, .unset] [(.ref t)]
    have s0z : Srt [] := List.Pairwise.nil
    have c0z : Cts 0 [] := ⟨Nat.le_refl _, fun p hp => absurd hp (by simp)⟩
    refine Go.astore D (pc' := 82) at_80 rfl rfl (ls' := #[.val (.int a), .val (.int b), .val (.int c), .val (.int d), .val (.int fl), .val (.int b2), .val (.int c2), .val (.int d2), .val (.int f1), .val (.int f2), .val (.ref t), .unset, .unset, .unset, .unset]) rfl ?_
    refine Go.aload D (pc' := 84) at_82 rfl rfl rfl ?_
    refine Go.iloadN D (pc' := 85) at_84 rfl rfl ?_
    refine Go.callV D (argsL := [(.int a)]) (rest := []) (pc' := 88) (ce' := 5) (sl' := 22) (con_add l Z a0 hw h2 n0 T2.sz t a _ 0 _ _ T2 s0z c0z (by decide) (by decide : 1 ≤ 2 * 0 + 1) (by decide : 0 < 1)) (hw _ (List.mem_of_getElem? (i := 14) rfl)) (hw _ (List.mem_of_getElem? (i := 15) rfl)) (hw _ (List.mem_of_getElem? (i := 17) rfl)) (hw _ (List.mem_of_getElem? (i := 16) rfl)) (hw _ (List.mem_of_getElem? (i := 2) rfl)) (hw _ (List.mem_of_getElem? (i := 18) rfl)) (nfS (hw _ (List.mem_of_getElem? (i := 17) rfl))) (by decide) T2.exa at_85 rfl pd3 rfl rfl rfl (by decide) (W := 0) rfl (by decide) (by decide) (by decide) (by decide) (by decide) ?_
    intro v85 h85 q85
    obtain ⟨rfl, cap85, ps85, fc85, T85, s85, c85, e85, b85, f85⟩ := q85
    show Go κ h85 5 22 88 #[.val (.int a), .val (.int b), .val (.int c), .val (.int d), .val (.int fl), .val (.int b2), .val (.int c2), .val (.int d2), .val (.int f1), .val (.int f2), .val (.ref t), .unset, .unset, .unset, .unset] []
    refine Go.aload D (pc' := 90) at_88 rfl rfl rfl ?_
    refine Go.iload D (pc' := 92) at_90 rfl rfl ?_
    refine Go.callV D (argsL := [(.int b2)]) (rest := []) (pc' := 95) (ce' := 7) (sl' := 38) (con_add l Z a0 hw h85 n0 T85.sz t b2 _ 1 _ _ T85 s85 c85 (by decide) b85.2 b85.1) (hw _ (List.mem_of_getElem? (i := 14) rfl)) (hw _ (List.mem_of_getElem? (i := 15) rfl)) (hw _ (List.mem_of_getElem? (i := 17) rfl)) (hw _ (List.mem_of_getElem? (i := 16) rfl)) (hw _ (List.mem_of_getElem? (i := 2) rfl)) (hw _ (List.mem_of_getElem? (i := 18) rfl)) (nfS (hw _ (List.mem_of_getElem? (i := 17) rfl))) (by decide) T85.exa at_92 rfl pd3 rfl rfl rfl (by decide) (W := 0) rfl (by decide) (by decide) (by decide) (by decide) (by decide) ?_
    intro v92 h92 q92
    obtain ⟨rfl, cap92, ps92, fc92, T92, s92, c92, e92, b92, f92⟩ := q92
    show Go κ h92 7 38 95 #[.val (.int a), .val (.int b), .val (.int c), .val (.int d), .val (.int fl), .val (.int b2), .val (.int c2), .val (.int d2), .val (.int f1), .val (.int f2), .val (.ref t), .unset, .unset, .unset, .unset] []
    refine Go.aload D (pc' := 97) at_95 rfl rfl rfl ?_
    refine Go.iload D (pc' := 99) at_97 rfl rfl ?_
    refine Go.callV D (argsL := [(.int c2)]) (rest := []) (pc' := 102) (ce' := 9) (sl' := 54) (con_add l Z a0 hw h92 n0 T92.sz t c2 _ 2 _ _ T92 s92 c92 (by decide) b92.2 b92.1) (hw _ (List.mem_of_getElem? (i := 14) rfl)) (hw _ (List.mem_of_getElem? (i := 15) rfl)) (hw _ (List.mem_of_getElem? (i := 17) rfl)) (hw _ (List.mem_of_getElem? (i := 16) rfl)) (hw _ (List.mem_of_getElem? (i := 2) rfl)) (hw _ (List.mem_of_getElem? (i := 18) rfl)) (nfS (hw _ (List.mem_of_getElem? (i := 17) rfl))) (by decide) T92.exa at_99 rfl pd3 rfl rfl rfl (by decide) (W := 0) rfl (by decide) (by decide) (by decide) (by decide) (by decide) ?_
    intro v99 h99 q99
    obtain ⟨rfl, cap99, ps99, fc99, T99, s99, c99, e99, b99, f99⟩ := q99
    show Go κ h99 9 54 102 #[.val (.int a), .val (.int b), .val (.int c), .val (.int d), .val (.int fl), .val (.int b2), .val (.int c2), .val (.int d2), .val (.int f1), .val (.int f2), .val (.ref t), .unset, .unset, .unset, .unset] []
    refine Go.aload D (pc' := 104) at_102 rfl rfl rfl ?_
    refine Go.iload D (pc' := 106) at_104 rfl rfl ?_
    refine Go.callV D (argsL := [(.int d2)]) (rest := []) (pc' := 109) (ce' := 11) (sl' := 70) (con_add l Z a0 hw h99 n0 T99.sz t d2 _ 3 _ _ T99 s99 c99 (by decide) b99.2 b99.1) (hw _ (List.mem_of_getElem? (i := 14) rfl)) (hw _ (List.mem_of_getElem? (i := 15) rfl)) (hw _ (List.mem_of_getElem? (i := 17) rfl)) (hw _ (List.mem_of_getElem? (i := 16) rfl)) (hw _ (List.mem_of_getElem? (i := 2) rfl)) (hw _ (List.mem_of_getElem? (i := 18) rfl)) (nfS (hw _ (List.mem_of_getElem? (i := 17) rfl))) (by decide) T99.exa at_106 rfl pd3 rfl rfl rfl (by decide) (W := 0) rfl (by decide) (by decide) (by decide) (by decide) (by decide) ?_
    intro v106 h106 q106
    obtain ⟨rfl, cap106, ps106, fc106, T106, s106, c106, e106, b106, f106⟩ := q106
    show Go κ h106 11 70 109 #[.val (.int a), .val (.int b), .val (.int c), .val (.int d), .val (.int fl), .val (.int b2), .val (.int c2), .val (.int d2), .val (.int f1), .val (.int f2), .val (.ref t), .unset, .unset, .unset, .unset] []
    have hcnt : ∀ x, (cnt ps106 x : Int) = ei (a = x) + ei (b2 = x) + ei (c2 = x) + ei (d2 = x) := fun x => by
      rw [cnt_e (e106 x), cnt_e (e99 x), cnt_e (e92 x), cnt_e (e85 x)]
      simp [cnt]
    refine Go.iload D (pc' := 111) at_109 rfl rfl ?_
    refine Go.ifc D (pc' := 120) (pc2 := 114) at_111 (by decide) (by decide) rfl ?_ ?_
    · intro (hc111 : f1 = 0)
      exact J120 b2 c2 d2 f1 f2 t _ _ ps106 fc106 T106 s106 c106 b106.2 (fun x => by rw [hcnt x, ei_no (f := f1) hc111]; omega)
    · intro (hc111 : ¬ f1 = 0)
      refine Go.aload D (pc' := 116) at_114 rfl rfl rfl ?_
      refine Go.iloadN D (pc' := 117) at_116 rfl rfl ?_
      have hp : 0 < cnt ps106 a := by
        have q := hcnt a
        rw [ei_t (p := a = a) rfl] at q
        have z1 := ei_rng (b2 = a)
        have z2 := ei_rng (c2 = a)
        have z3 := ei_rng (d2 = a)
        omega
      refine Go.callV D (argsL := [(.int a)]) (rest := []) (pc' := 120) (ce' := 11) (sl' := 70) (con_remove l Z a0 hw h106 n0 t a _ 4 _ _ T106 s106 c106 (by decide) b106.2 hp) (hw _ (List.mem_of_getElem? (i := 63) rfl)) (hw _ (List.mem_of_getElem? (i := 64) rfl)) (hw _ (List.mem_of_getElem? (i := 66) rfl)) (hw _ (List.mem_of_getElem? (i := 65) rfl)) (hw _ (List.mem_of_getElem? (i := 2) rfl)) (hw _ (List.mem_of_getElem? (i := 67) rfl)) (nfS (hw _ (List.mem_of_getElem? (i := 66) rfl))) (by decide) T106.exa at_117 rfl pd11 rfl rfl rfl (by decide) (W := 0) rfl (by decide) (by decide) (by decide) (by decide) (by decide) ?_
      intro v117 hR q117
      obtain ⟨rfl, psR, fcR, TR, sR, cR, eR, -⟩ := q117
      show Go κ hR 11 70 120 #[.val (.int a), .val (.int b), .val (.int c), .val (.int d), .val (.int fl), .val (.int b2), .val (.int c2), .val (.int d2), .val (.int f1), .val (.int f2), .val (.ref t), .unset, .unset, .unset, .unset] []
      exact J120 b2 c2 d2 f1 f2 t _ _ psR fcR TR sR cR b106.2 (fun x => by rw [cnt_r (eR x), hcnt x, ei_and (f := f1) hc111])
  have J58 : ∀ (b2 c2 d2 f1 : Int32), Go κ h0 0 0 58 #[.val (.int a), .val (.int b), .val (.int c), .val (.int d), .val (.int fl), .val (.int b2), .val (.int c2), .val (.int d2), .val (.int f1), .unset, .unset, .unset, .unset, .unset, .unset] [] := by
    intro b2 c2 d2 f1
    refine Go.iload D (pc' := 60) at_58 rfl rfl ?_
    refine Go.bipush D (pc' := 62) at_60 rfl (v := (16 : Int32)) rfl ?_
    refine Go.iand D (pc' := 63) at_62 rfl  ?_
    refine Go.ifc D (pc' := 70) (pc2 := 66) at_63 (by decide) (by decide) rfl ?_ ?_
    · intro (hc63 : (fl &&& (16 : Int32)) = 0)
      refine Go.iconst D (pc' := 71) at_70 rfl (v := (0 : Int32)) rfl ?_
      refine Go.istore D (pc' := 73) at_71 rfl (ls' := #[.val (.int a), .val (.int b), .val (.int c), .val (.int d), .val (.int fl), .val (.int b2), .val (.int c2), .val (.int d2), .val (.int f1), .val (.int (0 : Int32)), .unset, .unset, .unset, .unset, .unset]) rfl ?_
      exact J73 b2 c2 d2 f1 _
    · intro (hc63 : ¬ (fl &&& (16 : Int32)) = 0)
      refine Go.iconst D (pc' := 67) at_66 rfl (v := (1 : Int32)) rfl ?_
      refine Go.goto D (pc' := 71) at_67 (by decide) (by decide) ?_
      refine Go.istore D (pc' := 73) at_71 rfl (ls' := #[.val (.int a), .val (.int b), .val (.int c), .val (.int d), .val (.int fl), .val (.int b2), .val (.int c2), .val (.int d2), .val (.int f1), .val (.int (1 : Int32)), .unset, .unset, .unset, .unset, .unset]) rfl ?_
      exact J73 b2 c2 d2 f1 _
  have J43 : ∀ (b2 c2 d2 : Int32), Go κ h0 0 0 43 #[.val (.int a), .val (.int b), .val (.int c), .val (.int d), .val (.int fl), .val (.int b2), .val (.int c2), .val (.int d2), .unset, .unset, .unset, .unset, .unset, .unset, .unset] [] := by
    intro b2 c2 d2
    refine Go.iload D (pc' := 45) at_43 rfl rfl ?_
    refine Go.bipush D (pc' := 47) at_45 rfl (v := (8 : Int32)) rfl ?_
    refine Go.iand D (pc' := 48) at_47 rfl  ?_
    refine Go.ifc D (pc' := 55) (pc2 := 51) at_48 (by decide) (by decide) rfl ?_ ?_
    · intro (hc48 : (fl &&& (8 : Int32)) = 0)
      refine Go.iconst D (pc' := 56) at_55 rfl (v := (0 : Int32)) rfl ?_
      refine Go.istore D (pc' := 58) at_56 rfl (ls' := #[.val (.int a), .val (.int b), .val (.int c), .val (.int d), .val (.int fl), .val (.int b2), .val (.int c2), .val (.int d2), .val (.int (0 : Int32)), .unset, .unset, .unset, .unset, .unset, .unset]) rfl ?_
      exact J58 b2 c2 d2 _
    · intro (hc48 : ¬ (fl &&& (8 : Int32)) = 0)
      refine Go.iconst D (pc' := 52) at_51 rfl (v := (1 : Int32)) rfl ?_
      refine Go.goto D (pc' := 56) at_52 (by decide) (by decide) ?_
      refine Go.istore D (pc' := 58) at_56 rfl (ls' := #[.val (.int a), .val (.int b), .val (.int c), .val (.int d), .val (.int fl), .val (.int b2), .val (.int c2), .val (.int d2), .val (.int (1 : Int32)), .unset, .unset, .unset, .unset, .unset, .unset]) rfl ?_
      exact J58 b2 c2 d2 _
  have J29 : ∀ (b2 c2 : Int32), Go κ h0 0 0 29 #[.val (.int a), .val (.int b), .val (.int c), .val (.int d), .val (.int fl), .val (.int b2), .val (.int c2), .unset, .unset, .unset, .unset, .unset, .unset, .unset, .unset] [] := by
    intro b2 c2
    refine Go.iload D (pc' := 31) at_29 rfl rfl ?_
    refine Go.iconst D (pc' := 32) at_31 rfl (v := (4 : Int32)) rfl ?_
    refine Go.iand D (pc' := 33) at_32 rfl  ?_
    refine Go.ifc D (pc' := 40) (pc2 := 36) at_33 (by decide) (by decide) rfl ?_ ?_
    · intro (hc33 : (fl &&& (4 : Int32)) = 0)
      refine Go.iloadN D (pc' := 41) at_40 rfl rfl ?_
      refine Go.istore D (pc' := 43) at_41 rfl (ls' := #[.val (.int a), .val (.int b), .val (.int c), .val (.int d), .val (.int fl), .val (.int b2), .val (.int c2), .val (.int d), .unset, .unset, .unset, .unset, .unset, .unset, .unset]) rfl ?_
      exact J43 b2 c2 _
    · intro (hc33 : ¬ (fl &&& (4 : Int32)) = 0)
      refine Go.iloadN D (pc' := 37) at_36 rfl rfl ?_
      refine Go.goto D (pc' := 41) at_37 (by decide) (by decide) ?_
      refine Go.istore D (pc' := 43) at_41 rfl (ls' := #[.val (.int a), .val (.int b), .val (.int c), .val (.int d), .val (.int fl), .val (.int b2), .val (.int c2), .val (.int a), .unset, .unset, .unset, .unset, .unset, .unset, .unset]) rfl ?_
      exact J43 b2 c2 _
  have J14 : ∀ (b2 : Int32), Go κ h0 0 0 14 #[.val (.int a), .val (.int b), .val (.int c), .val (.int d), .val (.int fl), .val (.int b2), .unset, .unset, .unset, .unset, .unset, .unset, .unset, .unset, .unset] [] := by
    intro b2
    refine Go.iload D (pc' := 16) at_14 rfl rfl ?_
    refine Go.iconst D (pc' := 17) at_16 rfl (v := (2 : Int32)) rfl ?_
    refine Go.iand D (pc' := 18) at_17 rfl  ?_
    refine Go.ifc D (pc' := 26) (pc2 := 21) at_18 (by decide) (by decide) rfl ?_ ?_
    · intro (hc18 : (fl &&& (2 : Int32)) = 0)
      refine Go.iloadN D (pc' := 27) at_26 rfl rfl ?_
      refine Go.istore D (pc' := 29) at_27 rfl (ls' := #[.val (.int a), .val (.int b), .val (.int c), .val (.int d), .val (.int fl), .val (.int b2), .val (.int c), .unset, .unset, .unset, .unset, .unset, .unset, .unset, .unset]) rfl ?_
      exact J29 b2 _
    · intro (hc18 : ¬ (fl &&& (2 : Int32)) = 0)
      refine Go.iload D (pc' := 23) at_21 rfl rfl ?_
      refine Go.goto D (pc' := 27) at_23 (by decide) (by decide) ?_
      refine Go.istore D (pc' := 29) at_27 rfl (ls' := #[.val (.int a), .val (.int b), .val (.int c), .val (.int d), .val (.int fl), .val (.int b2), .val (.int b2), .unset, .unset, .unset, .unset, .unset, .unset, .unset, .unset]) rfl ?_
      exact J29 b2 _
  refine Go.iload D (pc' := 2) at_0 rfl rfl ?_
  refine Go.iconst D (pc' := 3) at_2 rfl (v := (1 : Int32)) rfl ?_
  refine Go.iand D (pc' := 4) at_3 rfl  ?_
  refine Go.ifc D (pc' := 11) (pc2 := 7) at_4 (by decide) (by decide) rfl ?_ ?_
  · intro (hc4 : (fl &&& (1 : Int32)) = 0)
    refine Go.iloadN D (pc' := 12) at_11 rfl rfl ?_
    refine Go.istore D (pc' := 14) at_12 rfl (ls' := #[.val (.int a), .val (.int b), .val (.int c), .val (.int d), .val (.int fl), .val (.int b), .unset, .unset, .unset, .unset, .unset, .unset, .unset, .unset, .unset]) rfl ?_
    exact J14 _
  · intro (hc4 : ¬ (fl &&& (1 : Int32)) = 0)
    refine Go.iloadN D (pc' := 8) at_7 rfl rfl ?_
    refine Go.goto D (pc' := 12) at_8 (by decide) (by decide) ?_
    refine Go.istore D (pc' := 14) at_12 rfl (ls' := #[.val (.int a), .val (.int b), .val (.int c), .val (.int d), .val (.int fl), .val (.int a), .unset, .unset, .unset, .unset, .unset, .unset, .unset, .unset, .unset]) rfl ?_
    exact J14 _
set_option maxRecDepth 65536 in
set_option maxHeartbeats 40000000 in
theorem comes_1 {Post : Tables → Env → Array Value → State → Outcome → State → Prop} (hpost : ∀ tb e args s v u, (limb_1_1.after args s (.returned v) u = true ∧ limb_1_2.after args s (.returned v) u = true ∧ True) → FrameEnd s (.returned v) u (Jvm.fieldLocs frame_1_writes args s ++ Jvm.arrayLocs frame_1_arrays args s ++ Jvm.staticLocs frame_1_statics s) 32 128 → Post tb e args s (.returned v) u) :
    ArmFor flags0 classFile x code maxLocals ret World_1 tables_1 room_1 Calls_1 rest_1 Pre_1 Post := by
  intro l hfl _ _ p e ha hc hk s m args below hf hA hF happ hP
  obtain ⟨hcalls, hrest, hpre⟩ := hP
  obtain ⟨-, -, -, hnamed, -, -, -, hat⟩ := (Spec.applies_iff hf).mp happ
  obtain ⟨hg, hn⟩ := and_e (Cond.before_iff.mp (show (Jvm.Cond.and given_1 narrow_1).before args s = true from hpre))
  obtain ⟨h1, k0⟩ := and_e hg
  obtain ⟨j0, k1⟩ := and_e k0
  obtain ⟨j1, k2⟩ := and_e k1
  obtain ⟨j2, k3⟩ := and_e k2
  obtain ⟨j3, k4⟩ := and_e k3
  obtain ⟨w0, w1, w2, w3, w4, rfl⟩ : ∃ w0 w1 w2 w3 w4 : Value, args = #[w0, w1, w2, w3, w4] := by
    have hs : args.size = 5 := by simpa [Cond.value, given_1] using h1
    obtain ⟨L⟩ := args
    match L, hs with
    | [w0, w1, w2, w3, w4], _ => exact ⟨w0, w1, w2, w3, w4, rfl⟩
  have hw := fun d (hd : d ∈ tables_1) => atoms_spec (ws := Jvm.Cond.code x code maxLocals ret :: tables_1) hat d (List.mem_cons_of_mem _ hd)
  obtain ⟨i0, e0⟩ := is_v j0
  obtain rfl : w0 = (.int i0) := Option.some.inj e0
  obtain ⟨i1, e1⟩ := is_v j1
  obtain rfl : w1 = (.int i1) := Option.some.inj e1
  obtain ⟨i2, e2⟩ := is_v j2
  obtain rfl : w2 = (.int i2) := Option.some.inj e2
  obtain ⟨i3, e3⟩ := is_v j3
  obtain rfl : w3 = (.int i3) := Option.some.inj e3
  obtain ⟨i4, e4⟩ := is_v k4
  obtain rfl : w4 = (.int i4) := Option.some.inj e4

  obtain ⟨n, o, g1, g2, g3, _, L, rfl, ⟨N, rfl⟩, hq⟩ := con_law l s _ hw s.heap s.heap.size (Nat.le_refl _) i0 i1 i2 i3 i4 p e ha hc hk s m _ below hf ((Spec.applies_iff_loose hf).mp happ).1 ⟨rfl, State.Warmed39.refl s, rfl⟩ trivial
  refine ⟨n, _, g1, g2, g3, hpost _ _ _ _ _ _ ⟨Cond.after_iff.mpr rfl, Cond.after_iff.mpr (eq_i res_at (Term.int_eval (1)) rfl), trivial⟩ ⟨hq.1, hq.2.1, (hq.2.2.sift fun y hy => Or.inr (N y hy)).mono (by decide) (by decide)⟩⟩
theorem main_1_1 : Claimed_1_1 := comes_1 fun _ _ _ _ _ _ h hF => ⟨h.1, hF⟩
theorem main_1_2 : Claimed_1_2 := comes_1 fun _ _ _ _ _ _ h hF => ⟨h.2.1, hF⟩
end Jvm.Pilot.@@N@@
namespace Jvm.Pilot.@@N@@
open Jvm Jvm.ClassFile Sem Op Lib Jvm.Free Jvm.Stand Jvm.Pilot.@@N@@.Jvm.D
/-! MADE BY PROGRAM (witnessworld.py) out of the Statement's table words and the real class files: 12 classes; the members and pool entries that the words name. The judged class is class 1, her method 1. -/
namespace start1
open Jvm.ClassFile
def u (s : String) : CpInfo := .utf8 (stringToUtf16 s)
/-- a pool by its gaps: so many unusable entries, then the entry; so many at the end -/
def gap : Nat → List CpInfo → List CpInfo
  | 0, r => r
  | n + 1, r => .unusable :: gap n r
def poolList (es : List (Nat × CpInfo)) (last : Nat) : List CpInfo := es.foldr (fun e r => gap e.1 (e.2 :: r)) (gap last [])
def pool (es : List (Nat × CpInfo)) (last : Nat) : Array CpInfo := ⟨poolList es last⟩
def fileOf (pool : Array CpInfo) (this : Nat) (attrs : Array Attribute := #[]) (ms : Array MethodInfo := #[]) (fl : Nat := 33) (sup : Nat := 0) (ifs : Array Nat := #[]) (fds : Array FieldInfo := #[]) : ClassFile where
  minorVersion := 0
  majorVersion := 65
  constantPool := pool
  accessFlags := fl
  thisClass := this
  superClass := sup
  interfaces := ifs
  fields := fds
  methods := ms
  attributes := attrs
def plain (name : String) (sup : Option ClassId) : Class where
  name := name
  kind := .ordinary
  loader := none
  accessFlags := 33
  super := sup
  interfaces := #[]
  cf := none
  fields := #[]
  methods := #[]
  instanceTypes := #[]
  staticTypes := #[]
  resolved := #[]
  callSites := []
  init := .initialized
  statics := none
  mirror := none

def pool0 : Array CpInfo := pool [(5, u "<init>"), (0, u "()V"), (1, .class_ 10), (1, u "java/lang/Object"), (85, u "clone"), (0, u "()Ljava/lang/Object;")] 26

def k0c0 : Code := { maxStack := 0, maxLocals := 1, code := object_method_1_code, exceptionTable := #[], attributes := #[] }
def k0m0 : Method := { name := "<init>", desc := "()V", sig := { parameters := [], returnType := none }, accessFlags := 1, code := some k0c0 }
def k0m1 : Method := { name := "clone", desc := "()Ljava/lang/Object;", sig := { parameters := [], returnType := some (.object "java/lang/Object") }, accessFlags := 260, code := none }
/-- java/lang/Object -/
def k0 : Class := { plain "java/lang/Object" none with
  accessFlags := 33
  interfaces := #[]
  cf := some (fileOf pool0 8 #[] #[{ accessFlags := 1, nameIndex := 5, descriptorIndex := 6, attributes := #[] }, { accessFlags := 260, nameIndex := 96, descriptorIndex := 97, attributes := #[] }] 33 0 #[] #[])
  fields := #[]
  methods := #[k0m0, k0m1]
  instanceTypes := #[]
  staticTypes := #[]
  resolved := Array.replicate 124 none
  statics := none }

def pool1 : Array CpInfo := pool [(2, .class_ 4), (0, .nameAndType 5 6), (0, u "java/lang/Object"), (0, u "<init>"), (0, u "()V"), (0, .class_ 8), (0, u "com/example/opaque_cohort/opaquecohort/CodeTally"), (0, .methodref 7 3), (0, .methodref 7 11), (0, .nameAndType 12 13), (0, u "add"), (0, u "(I)V"), (0, .methodref 7 15), (0, .nameAndType 16 13), (0, u "remove"), (0, .methodref 18 19), (0, .class_ 20), (0, .nameAndType 21 22), (0, u "com/example/opaque_cohort/opaquecohort/CodeTallyCodesPinLaw"), (0, u "held"), (0, u "(IIIIIZZ)Z"), (0, .methodref 7 24), (0, .nameAndType 25 26), (0, u "codes"), (0, u "()[I"), (2, u "law"), (0, u "(IIIII)Z")] 5

def k1m0 : Method := { name := "<init>", desc := "()V", sig := { parameters := [], returnType := none }, accessFlags := 2, code := none }
def k1c1 : Code := { maxStack := 7, maxLocals := 15, code := code, exceptionTable := #[], attributes := #[] }
def k1m1 : Method := { name := "law", desc := "(IIIII)Z", sig := { parameters := [.int, .int, .int, .int, .int], returnType := some .boolean }, accessFlags := 9, code := some k1c1 }
def k1c2 : Code := { maxStack := 2, maxLocals := 8, code := method_3_code, exceptionTable := #[], attributes := #[] }
def k1m2 : Method := { name := "held", desc := "(IIIIIZZ)Z", sig := { parameters := [.int, .int, .int, .int, .int, .boolean, .boolean], returnType := some .boolean }, accessFlags := 10, code := some k1c2 }
/-- com/example/opaque_cohort/opaquecohort/CodeTallyCodesPinLaw -/
def k1 : Class := { plain "com/example/opaque_cohort/opaquecohort/CodeTallyCodesPinLaw" (some 0) with
  accessFlags := 49
  interfaces := #[]
  cf := some (fileOf pool1 18 #[] #[{ accessFlags := 2, nameIndex := 5, descriptorIndex := 6, attributes := #[] }, { accessFlags := 9, nameIndex := 29, descriptorIndex := 30, attributes := #[] }, { accessFlags := 10, nameIndex := 21, descriptorIndex := 22, attributes := #[] }] 49 2 #[] #[])
  fields := #[]
  methods := #[k1m0, k1m1, k1m2]
  instanceTypes := #[]
  staticTypes := #[]
  resolved := Array.replicate 36 none
  statics := none }

def pool2 : Array CpInfo := pool [(1, .methodref 2 3), (0, .class_ 4), (0, .nameAndType 5 6), (0, u "java/lang/Object"), (0, u "<init>"), (0, u "()V"), (0, .fieldref 8 9), (0, .class_ 10), (0, .nameAndType 11 12), (0, u "com/example/opaque_cohort/opaquecohort/CodeTally"), (0, u "codes"), (0, u "[I"), (0, .fieldref 8 14), (0, .nameAndType 15 12), (0, u "counts"), (0, .fieldref 8 17), (0, .nameAndType 18 19), (0, u "distinct"), (0, u "I"), (0, .methodref 21 22), (0, .class_ 23), (0, .nameAndType 24 25), (0, u "java/util/Arrays"), (0, u "binarySearch"), (0, u "([IIII)I"), (0, .methodref 21 27), (0, .nameAndType 28 29), (0, u "copyOf"), (0, u "([II)[I"), (0, .methodref 31 32), (0, .class_ 33), (0, .nameAndType 34 35), (0, u "java/lang/System"), (0, u "arraycopy"), (0, u "(Ljava/lang/Object;ILjava/lang/Object;II)V"), (2, .fieldref 8 39), (0, .nameAndType 40 41), (0, u "firstCodes"), (0, u "J"), (0, .long 18446744073709551615), (3, u "add"), (0, u "(I)V"), (1, u "remove"), (4, u "()[I")] 5

def k2c0 : Code := { maxStack := 2, maxLocals := 1, code := prog_1_method_1_code, exceptionTable := #[], attributes := #[] }
def k2m0 : Method := { name := "<init>", desc := "()V", sig := { parameters := [], returnType := none }, accessFlags := 0, code := some k2c0 }
def k2c1 : Code := { maxStack := 6, maxLocals := 4, code := prog_1_method_2_code, exceptionTable := #[], attributes := #[] }
def k2m1 : Method := { name := "add", desc := "(I)V", sig := { parameters := [.int], returnType := none }, accessFlags := 0, code := some k2c1 }
def k2c2 : Code := { maxStack := 7, maxLocals := 3, code := prog_1_method_3_code, exceptionTable := #[], attributes := #[] }
def k2m2 : Method := { name := "remove", desc := "(I)V", sig := { parameters := [.int], returnType := none }, accessFlags := 0, code := some k2c2 }
def k2c3 : Code := { maxStack := 2, maxLocals := 1, code := prog_1_method_6_code, exceptionTable := #[], attributes := #[] }
def k2m3 : Method := { name := "codes", desc := "()[I", sig := { parameters := [], returnType := some (.array .int) }, accessFlags := 0, code := some k2c3 }
/-- com/example/opaque_cohort/opaquecohort/CodeTally -/
def k2 : Class := { plain "com/example/opaque_cohort/opaquecohort/CodeTally" (some 0) with
  accessFlags := 32
  interfaces := #[]
  cf := some (fileOf pool2 8 #[] #[{ accessFlags := 0, nameIndex := 5, descriptorIndex := 6, attributes := #[] }, { accessFlags := 0, nameIndex := 46, descriptorIndex := 47, attributes := #[] }, { accessFlags := 0, nameIndex := 49, descriptorIndex := 47, attributes := #[] }, { accessFlags := 0, nameIndex := 11, descriptorIndex := 54, attributes := #[] }] 32 2 #[] #[{ accessFlags := 2, nameIndex := 11, descriptorIndex := 12, attributes := #[] }, { accessFlags := 2, nameIndex := 15, descriptorIndex := 12, attributes := #[] }, { accessFlags := 2, nameIndex := 18, descriptorIndex := 19, attributes := #[] }, { accessFlags := 2, nameIndex := 40, descriptorIndex := 41, attributes := #[] }])
  fields := #[{ name := "codes", type := (.array .int), accessFlags := 2, slot := 0, constantValue := 0 }, { name := "counts", type := (.array .int), accessFlags := 2, slot := 1, constantValue := 0 }, { name := "distinct", type := .int, accessFlags := 2, slot := 2, constantValue := 0 }, { name := "firstCodes", type := .long, accessFlags := 2, slot := 3, constantValue := 0 }]
  methods := #[k2m0, k2m1, k2m2, k2m3]
  instanceTypes := #[(.array .int), (.array .int), .int, .long]
  staticTypes := #[]
  resolved := Array.replicate 60 none
  statics := none }

def pool3 : Array CpInfo := pool [(2, .class_ 4), (1, u "java/lang/Object"), (0, u "<init>"), (0, u "()V"), (6, .methodref 14 15), (0, .class_ 16), (0, .nameAndType 17 18), (0, u "java/util/Arrays"), (0, u "rangeCheck"), (0, u "(III)V"), (55, .class_ 76), (1, u "java/util/Arrays$NaturalOrder"), (32, u "()Ljava/lang/Object;"), (3, .class_ 115), (1, u "java/util/Arrays$LegacyMergeSort"), (1, u "Z"), (10, .nameAndType 129 109), (0, u "clone"), (20, .methodref 151 152), (0, .class_ 153), (0, .nameAndType 154 155), (0, u "java/lang/System"), (0, u "arraycopy"), (0, u "(Ljava/lang/Object;ILjava/lang/Object;II)V"), (51, u "binarySearch0"), (1, .methodref 14 210), (0, .nameAndType 207 211), (0, u "([IIII)I"), (90, u "copyOf"), (1, .methodref 305 306), (0, .class_ 307), (0, .nameAndType 308 309), (0, u "java/lang/Math"), (0, u "min"), (0, u "(II)I"), (6, .methodref 317 128), (0, .class_ 318), (0, u "[I"), (56, .class_ 376), (0, u "java/util/Arrays$ArrayList"), (68, u "$assertionsDisabled"), (269, u "MIN_ARRAY_SORT_GRAN"), (0, u "I"), (2, u "INSERTIONSORT_THRESHOLD"), (74, u "binarySearch"), (76, u "([II)[I"), (103, .class_ 976), (0, u "java/util/Arrays$ArrayItr")] 52

def k3m0 : Method := { name := "<init>", desc := "()V", sig := { parameters := [], returnType := none }, accessFlags := 2, code := none }
def k3c1 : Code := { maxStack := 4, maxLocals := 3, code := jdk_65_method_30_code, exceptionTable := #[], attributes := #[] }
def k3m1 : Method := { name := "rangeCheck", desc := "(III)V", sig := { parameters := [.int, .int, .int], returnType := none }, accessFlags := 8, code := some k3c1 }
def k3c2 : Code := { maxStack := 4, maxLocals := 4, code := jdk_65_method_58_code, exceptionTable := #[], attributes := #[] }
def k3m2 : Method := { name := "binarySearch", desc := "([IIII)I", sig := { parameters := [(.array .int), .int, .int, .int], returnType := some .int }, accessFlags := 9, code := some k3c2 }
def k3c3 : Code := { maxStack := 2, maxLocals := 8, code := jdk_65_method_59_code, exceptionTable := #[], attributes := #[] }
def k3m3 : Method := { name := "binarySearch0", desc := "([IIII)I", sig := { parameters := [(.array .int), .int, .int, .int], returnType := some .int }, accessFlags := 10, code := some k3c3 }
def k3c4 : Code := { maxStack := 6, maxLocals := 3, code := jdk_65_method_123_code, exceptionTable := #[], attributes := #[] }
def k3m4 : Method := { name := "copyOf", desc := "([II)[I", sig := { parameters := [(.array .int), .int], returnType := some (.array .int) }, accessFlags := 9, code := some k3c4 }
/-- java/util/Arrays -/
def k3 : Class := { plain "java/util/Arrays" (some 0) with
  accessFlags := 49
  interfaces := #[]
  cf := some (fileOf pool3 14 #[.nestMembers #[975, 375, 113, 74]] #[{ accessFlags := 2, nameIndex := 5, descriptorIndex := 6, attributes := #[] }, { accessFlags := 8, nameIndex := 17, descriptorIndex := 18, attributes := #[] }, { accessFlags := 9, nameIndex := 794, descriptorIndex := 211, attributes := #[] }, { accessFlags := 10, nameIndex := 207, descriptorIndex := 211, attributes := #[] }, { accessFlags := 9, nameIndex := 302, descriptorIndex := 871, attributes := #[] }] 49 2 #[] #[{ accessFlags := 26, nameIndex := 715, descriptorIndex := 716, attributes := #[] }, { accessFlags := 26, nameIndex := 719, descriptorIndex := 716, attributes := #[] }, { accessFlags := 4120, nameIndex := 445, descriptorIndex := 117, attributes := #[] }])
  fields := #[{ name := "MIN_ARRAY_SORT_GRAN", type := .int, accessFlags := 26, slot := 0, constantValue := 0 }, { name := "INSERTIONSORT_THRESHOLD", type := .int, accessFlags := 26, slot := 1, constantValue := 0 }, { name := "$assertionsDisabled", type := .boolean, accessFlags := 4120, slot := 2, constantValue := 0 }]
  methods := #[k3m0, k3m1, k3m2, k3m3, k3m4]
  instanceTypes := #[]
  staticTypes := #[.int, .int, .boolean]
  resolved := Array.replicate 1029 none
  statics := none }

def pool4 : Array CpInfo := pool [(2, .class_ 4), (1, u "java/lang/Object"), (0, u "<init>"), (0, u "()V"), (1, .class_ 10), (1, u "java/lang/System"), (0, u "allowSecurityManager"), (0, u "I"), (16, u "cons"), (0, u "Ljava/io/Console;"), (77, .class_ 110), (1, u "java/lang/System$CallersHolder"), (43, u "initialErrStream"), (0, u "Ljava/io/PrintStream;"), (19, u "security"), (0, u "Ljava/lang/SecurityManager;"), (31, .class_ 209), (0, u "java/lang/System$1"), (7, u "props"), (0, u "Ljava/util/Properties;"), (2, u "lineSeparator"), (0, u "Ljava/lang/String;"), (96, .class_ 321), (1, u "java/lang/System$LoggerFinder"), (5, .class_ 328), (0, u "java/lang/System$Logger"), (67, u "err"), (2, u "out"), (91, u "notSupportedJnuEncoding"), (15, u "in"), (17, u "initialIn"), (0, u "Ljava/io/InputStream;"), (35, u "bootLayer"), (0, u "Ljava/lang/ModuleLayer;"), (99, .class_ 664), (0, u "java/lang/System$2"), (9, u "NEVER"), (2, u "MAYBE"), (49, u "arraycopy"), (0, u "(Ljava/lang/Object;ILjava/lang/Object;II)V"), (72, .class_ 802), (0, u "java/lang/System$Logger$Level")] 31

def k4m0 : Method := { name := "<init>", desc := "()V", sig := { parameters := [], returnType := none }, accessFlags := 2, code := none }
def k4m1 : Method := { name := "arraycopy", desc := "(Ljava/lang/Object;ILjava/lang/Object;II)V", sig := { parameters := [(.object "java/lang/Object"), .int, (.object "java/lang/Object"), .int, .int], returnType := none }, accessFlags := 265, code := none }
/-- java/lang/System -/
def k4 : Class := { plain "java/lang/System" (some 0) with
  accessFlags := 49
  interfaces := #[]
  cf := some (fileOf pool4 8 #[.nestMembers #[319, 327, 801, 108, 663, 208]] #[{ accessFlags := 2, nameIndex := 5, descriptorIndex := 6, attributes := #[] }, { accessFlags := 265, nameIndex := 727, descriptorIndex := 728, attributes := #[] }] 49 2 #[] #[{ accessFlags := 25, nameIndex := 507, descriptorIndex := 526, attributes := #[] }, { accessFlags := 25, nameIndex := 399, descriptorIndex := 155, attributes := #[] }, { accessFlags := 25, nameIndex := 396, descriptorIndex := 155, attributes := #[] }, { accessFlags := 10, nameIndex := 525, descriptorIndex := 526, attributes := #[] }, { accessFlags := 26, nameIndex := 674, descriptorIndex := 12, attributes := #[] }, { accessFlags := 26, nameIndex := 677, descriptorIndex := 12, attributes := #[] }, { accessFlags := 10, nameIndex := 11, descriptorIndex := 12, attributes := #[] }, { accessFlags := 74, nameIndex := 175, descriptorIndex := 176, attributes := #[] }, { accessFlags := 10, nameIndex := 491, descriptorIndex := 222, attributes := #[] }, { accessFlags := 74, nameIndex := 29, descriptorIndex := 30, attributes := #[] }, { accessFlags := 74, nameIndex := 154, descriptorIndex := 155, attributes := #[] }, { accessFlags := 10, nameIndex := 217, descriptorIndex := 218, attributes := #[] }, { accessFlags := 10, nameIndex := 221, descriptorIndex := 222, attributes := #[] }, { accessFlags := 8, nameIndex := 562, descriptorIndex := 563, attributes := #[] }])
  fields := #[{ name := "in", type := (.object "java/io/InputStream"), accessFlags := 25, slot := 0, constantValue := 0 }, { name := "out", type := (.object "java/io/PrintStream"), accessFlags := 25, slot := 1, constantValue := 0 }, { name := "err", type := (.object "java/io/PrintStream"), accessFlags := 25, slot := 2, constantValue := 0 }, { name := "initialIn", type := (.object "java/io/InputStream"), accessFlags := 10, slot := 3, constantValue := 0 }, { name := "NEVER", type := .int, accessFlags := 26, slot := 4, constantValue := 0 }, { name := "MAYBE", type := .int, accessFlags := 26, slot := 5, constantValue := 0 }, { name := "allowSecurityManager", type := .int, accessFlags := 10, slot := 6, constantValue := 0 }, { name := "security", type := (.object "java/lang/SecurityManager"), accessFlags := 74, slot := 7, constantValue := 0 }, { name := "notSupportedJnuEncoding", type := (.object "java/lang/String"), accessFlags := 10, slot := 8, constantValue := 0 }, { name := "cons", type := (.object "java/io/Console"), accessFlags := 74, slot := 9, constantValue := 0 }, { name := "initialErrStream", type := (.object "java/io/PrintStream"), accessFlags := 74, slot := 10, constantValue := 0 }, { name := "props", type := (.object "java/util/Properties"), accessFlags := 10, slot := 11, constantValue := 0 }, { name := "lineSeparator", type := (.object "java/lang/String"), accessFlags := 10, slot := 12, constantValue := 0 }, { name := "bootLayer", type := (.object "java/lang/ModuleLayer"), accessFlags := 8, slot := 13, constantValue := 0 }]
  methods := #[k4m0, k4m1]
  instanceTypes := #[]
  staticTypes := #[(.object "java/io/InputStream"), (.object "java/io/PrintStream"), (.object "java/io/PrintStream"), (.object "java/io/InputStream"), .int, .int, .int, (.object "java/lang/SecurityManager"), (.object "java/lang/String"), (.object "java/io/Console"), (.object "java/io/PrintStream"), (.object "java/util/Properties"), (.object "java/lang/String"), (.object "java/lang/ModuleLayer")]
  resolved := Array.replicate 834 none
  statics := none }

def pool5 : Array CpInfo := pool [(1, .class_ 2), (0, u "java/lang/Math"), (1, .class_ 6), (1, u "java/lang/Object"), (0, u "<init>"), (0, u "()V"), (89, .class_ 100), (1, u "java/lang/Math$RandomNumberGeneratorHolder"), (71, u "negativeZeroFloatBits"), (0, u "J"), (2, u "negativeZeroDoubleBits"), (24, u "min"), (43, u "$assertionsDisabled"), (0, u "Z"), (88, u "(II)I"), (2, u "twoToTheDoubleScaleDown"), (0, u "D"), (4, u "twoToTheDoubleScaleUp"), (9, u "E"), (3, u "PI"), (2, u "TAU"), (2, u "DEGREES_TO_RADIANS"), (0, u "RADIANS_TO_DEGREES")] 94

def k5m0 : Method := { name := "<init>", desc := "()V", sig := { parameters := [], returnType := none }, accessFlags := 2, code := none }
def k5c1 : Code := { maxStack := 2, maxLocals := 2, code := jdk_29_method_69_code, exceptionTable := #[], attributes := #[] }
def k5m1 : Method := { name := "min", desc := "(II)I", sig := { parameters := [.int, .int], returnType := some .int }, accessFlags := 9, code := some k5c1 }
/-- java/lang/Math -/
def k5 : Class := { plain "java/lang/Math" (some 0) with
  accessFlags := 49
  interfaces := #[]
  cf := some (fileOf pool5 1 #[.nestMembers #[98]] #[{ accessFlags := 2, nameIndex := 7, descriptorIndex := 8, attributes := #[] }, { accessFlags := 9, nameIndex := 201, descriptorIndex := 335, attributes := #[] }] 49 4 #[] #[{ accessFlags := 25, nameIndex := 354, descriptorIndex := 339, attributes := #[] }, { accessFlags := 25, nameIndex := 358, descriptorIndex := 339, attributes := #[] }, { accessFlags := 25, nameIndex := 361, descriptorIndex := 339, attributes := #[] }, { accessFlags := 26, nameIndex := 364, descriptorIndex := 339, attributes := #[] }, { accessFlags := 26, nameIndex := 365, descriptorIndex := 339, attributes := #[] }, { accessFlags := 26, nameIndex := 172, descriptorIndex := 173, attributes := #[] }, { accessFlags := 26, nameIndex := 176, descriptorIndex := 173, attributes := #[] }, { accessFlags := 8, nameIndex := 344, descriptorIndex := 339, attributes := #[] }, { accessFlags := 8, nameIndex := 338, descriptorIndex := 339, attributes := #[] }, { accessFlags := 4120, nameIndex := 245, descriptorIndex := 246, attributes := #[] }])
  fields := #[{ name := "E", type := .double, accessFlags := 25, slot := 0, constantValue := 0 }, { name := "PI", type := .double, accessFlags := 25, slot := 1, constantValue := 0 }, { name := "TAU", type := .double, accessFlags := 25, slot := 2, constantValue := 0 }, { name := "DEGREES_TO_RADIANS", type := .double, accessFlags := 26, slot := 3, constantValue := 0 }, { name := "RADIANS_TO_DEGREES", type := .double, accessFlags := 26, slot := 4, constantValue := 0 }, { name := "negativeZeroFloatBits", type := .long, accessFlags := 26, slot := 5, constantValue := 0 }, { name := "negativeZeroDoubleBits", type := .long, accessFlags := 26, slot := 6, constantValue := 0 }, { name := "twoToTheDoubleScaleUp", type := .double, accessFlags := 8, slot := 7, constantValue := 0 }, { name := "twoToTheDoubleScaleDown", type := .double, accessFlags := 8, slot := 8, constantValue := 0 }, { name := "$assertionsDisabled", type := .boolean, accessFlags := 4120, slot := 9, constantValue := 0 }]
  methods := #[k5m0, k5m1]
  instanceTypes := #[]
  staticTypes := #[.double, .double, .double, .double, .double, .long, .long, .double, .double, .boolean]
  resolved := Array.replicate 460 none
  statics := none }

def pool6 : Array CpInfo := pool [(1, .class_ 2), (0, u "java/lang/Cloneable"), (0, .class_ 4), (0, u "java/lang/Object")] 2

/-- java/lang/Cloneable -/
def k6 : Class := { plain "java/lang/Cloneable" (some 0) with
  accessFlags := 1537
  interfaces := #[]
  cf := some (fileOf pool6 1 #[] #[] 1537 3 #[] #[])
  fields := #[]
  methods := #[]
  instanceTypes := #[]
  staticTypes := #[]
  resolved := Array.replicate 7 none
  statics := none }

def pool7 : Array CpInfo := pool [(1, u "java/io/Serializable"), (0, .class_ 1), (0, u "java/lang/Object"), (0, .class_ 3)] 3

/-- java/io/Serializable -/
def k7 : Class := { plain "java/io/Serializable" (some 0) with
  accessFlags := 1537
  interfaces := #[]
  cf := some (fileOf pool7 2 #[] #[] 1537 4 #[] #[])
  fields := #[]
  methods := #[]
  instanceTypes := #[]
  staticTypes := #[]
  resolved := Array.replicate 8 none
  statics := none }

/-- the primitive byte -/
def k8 : Class := { plain "byte" none with kind := .primitive 'B', accessFlags := 0x411 }
/-- [B -/
def k9 : Class := { plain "[B" (some 0) with kind := .array 8 .byte, interfaces := #[6, 7], accessFlags := 1041 }

/-- the primitive int -/
def k10 : Class := { plain "int" none with kind := .primitive 'I', accessFlags := 0x411 }
/-- [I -/
def k11 : Class := { plain "[I" (some 0) with kind := .array 10 .int, interfaces := #[6, 7], accessFlags := 1041 }

def heap : Heap := #[]
def classes : Array Class := #[k0, k1, k2, k3, k4, k5, k6, k7, k8, k9, k10, k11]
def interned : List (Array UInt16 × Addr) := []
def slotsUsed : Nat := 0
def theMethod : MethodId := ⟨1, 1⟩
def args0 : Array Value := #[.int 5, .int 6, .int 7, .int 9, .int 3]
def aboutOver (below : List Frame) : State where
  vm := { classes := classes, interned := interned.toArray }
  heap := heap
  slotsUsed := slotsUsed
  threads := #[{ frames := .invoking theMethod args0 :: below }]
def below0 : List Frame := [.native { method := ⟨0, 0⟩, args := #[] }]
def about1 : State := aboutOver below0
def p0 : Program := .bare "" "" ""
def e0 : Env := launch0.env 0 0 0
theorem w_frames : about1.frames = Frame.invoking theMethod args0 :: below0 := rfl
set_option maxRecDepth 65536 in
theorem w_args : argsFit about1.vm theMethod args0 = true := by decide +kernel
set_option maxRecDepth 65536 in
theorem w_heap : heapFits about1 = true := by decide +kernel
set_option maxRecDepth 65536 in
theorem w_runnable : about1.curStatus? = some .runnable := by decide +kernel
set_option maxRecDepth 65536 in
theorem w_alone : about1.alone = true := by decide +kernel
set_option maxRecDepth 65536 in
theorem w_named : about1.methodNamed? x = some theMethod := by decide +kernel
set_option maxRecDepth 65536 in
theorem w_hears : about1.hears theMethod below0 = true := by decide +kernel
set_option maxRecDepth 65536 in
theorem w_ripe : about1.ripe theMethod args0 below0 = true := by decide +kernel
theorem w_running : about1.status = .running := rfl
set_option maxRecDepth 65536 in
theorem w_room : about1.hasRoom e0.platform room_1 = true :=
  launch0.hasRoom_least _ room_1 (by decide +kernel) (by decide +kernel) (by decide +kernel) (by decide +kernel) (by decide +kernel) (by decide +kernel)
theorem allAtoms_all (ts : List Jvm.Cond) (a : Array Jvm.Value) (st : Jvm.State) : (allAtoms ts).before a st = ts.all (fun c => c.before a st) := by
  induction ts with
  | nil => rfl
  | cons c t ih =>
    show (Jvm.Cond.and c (allAtoms t)).before a st = _
    rw [Jvm.Cond.before_and, ih, List.all_cons]
def words1 : List Jvm.Cond := Jvm.Cond.code x code maxLocals ret :: tables_1
/-- a 'code' word, met by the world's own term for the bytes: nothing is compared byte by byte -/
theorem code_word {y : MethodName} {bytes : ByteArray} {mx : Nat} {rt : Option FieldType} {a : Array Value} {s : State} {m : MethodId} {meth : Method} {c : Code} (h1 : s.methodNamed? y = some m) (h2 : s.vm.method? m = some meth) (h3 : meth.code = some c) (h4 : c.code = bytes)
    (h5 : (c.maxLocals == mx && c.exceptionTable.isEmpty && decide (c.maxStack ≤ mostOperands) && decide (meth.sig.returnType = rt) && !meth.locks && decide (parseMethodDescriptor y.desc = some meth.sig)) = true) : (Jvm.Cond.code y bytes mx rt).before a s = true := by
  simp only [Bool.and_eq_true, beq_iff_eq, Bool.not_eq_true', decide_eq_true_eq] at h5
  obtain ⟨⟨⟨⟨⟨g1, g2⟩, g3⟩, g4⟩, g5⟩, g6⟩ := h5
  simp [Cond.before, Cond.holds, Cond.value, h1, h2, h3, h4, g1, g2, g3, g4, g5, g6]
def isCode : Jvm.Cond → Bool
  | .code _ _ _ _ => true
  | _ => false
theorem all_split {L : List Jvm.Cond} {P : Jvm.Cond → Bool} (h1 : L.all (fun c => isCode c || P c) = true) (h2 : ∀ c ∈ L.filter isCode, P c = true) : L.all P = true := by
  refine List.all_eq_true.mpr fun c hc => ?_
  have h := List.all_eq_true.mp h1 c hc
  rcases Bool.eq_false_or_eq_true (isCode c) with hi | hi
  · exact h2 c (List.mem_filter.mpr ⟨hc, hi⟩)
  · simpa [hi] using h
set_option maxRecDepth 65536 in
theorem w_c0 : (Jvm.Cond.code x code maxLocals ret).before args0 about1 = true := code_word (m := ⟨1, 1⟩) (meth := k1m1) (c := k1c1) (by decide +kernel) rfl rfl rfl (by decide +kernel)
set_option maxRecDepth 65536 in
theorem w_c1 : (Jvm.Cond.code ({ cls := "com/example/opaque_cohort/opaquecohort/CodeTally", name := "<init>", desc := "()V" } : Jvm.MethodName) prog_1_method_1_code (1 : Nat) (Option.none : Option Jvm.ClassFile.FieldType)).before args0 about1 = true := code_word (m := ⟨2, 0⟩) (meth := k2m0) (c := k2c0) (by decide +kernel) rfl rfl rfl (by decide +kernel)
set_option maxRecDepth 65536 in
theorem w_c2 : (Jvm.Cond.code ({ cls := "java/lang/Object", name := "<init>", desc := "()V" } : Jvm.MethodName) object_method_1_code (1 : Nat) (Option.none : Option Jvm.ClassFile.FieldType)).before args0 about1 = true := code_word (m := ⟨0, 0⟩) (meth := k0m0) (c := k0c0) (by decide +kernel) rfl rfl rfl (by decide +kernel)
set_option maxRecDepth 65536 in
theorem w_c3 : (Jvm.Cond.code ({ cls := "com/example/opaque_cohort/opaquecohort/CodeTally", name := "add", desc := "(I)V" } : Jvm.MethodName) prog_1_method_2_code (4 : Nat) (Option.none : Option Jvm.ClassFile.FieldType)).before args0 about1 = true := code_word (m := ⟨2, 1⟩) (meth := k2m1) (c := k2c1) (by decide +kernel) rfl rfl rfl (by decide +kernel)
set_option maxRecDepth 65536 in
theorem w_c4 : (Jvm.Cond.code ({ cls := "java/util/Arrays", name := "binarySearch", desc := "([IIII)I" } : Jvm.MethodName) jdk_65_method_58_code (4 : Nat) (Option.some Jvm.ClassFile.FieldType.int)).before args0 about1 = true := code_word (m := ⟨3, 2⟩) (meth := k3m2) (c := k3c2) (by decide +kernel) rfl rfl rfl (by decide +kernel)
set_option maxRecDepth 65536 in
theorem w_c5 : (Jvm.Cond.code ({ cls := "java/util/Arrays", name := "rangeCheck", desc := "(III)V" } : Jvm.MethodName) jdk_65_method_30_code (3 : Nat) (Option.none : Option Jvm.ClassFile.FieldType)).before args0 about1 = true := code_word (m := ⟨3, 1⟩) (meth := k3m1) (c := k3c1) (by decide +kernel) rfl rfl rfl (by decide +kernel)
set_option maxRecDepth 65536 in
theorem w_c6 : (Jvm.Cond.code ({ cls := "java/util/Arrays", name := "binarySearch0", desc := "([IIII)I" } : Jvm.MethodName) jdk_65_method_59_code (8 : Nat) (Option.some Jvm.ClassFile.FieldType.int)).before args0 about1 = true := code_word (m := ⟨3, 3⟩) (meth := k3m3) (c := k3c3) (by decide +kernel) rfl rfl rfl (by decide +kernel)
set_option maxRecDepth 65536 in
theorem w_c7 : (Jvm.Cond.code ({ cls := "java/util/Arrays", name := "copyOf", desc := "([II)[I" } : Jvm.MethodName) jdk_65_method_123_code (3 : Nat) (Option.some (Jvm.ClassFile.FieldType.array Jvm.ClassFile.FieldType.int))).before args0 about1 = true := code_word (m := ⟨3, 4⟩) (meth := k3m4) (c := k3c4) (by decide +kernel) rfl rfl rfl (by decide +kernel)
set_option maxRecDepth 65536 in
theorem w_c8 : (Jvm.Cond.code ({ cls := "java/lang/Math", name := "min", desc := "(II)I" } : Jvm.MethodName) jdk_29_method_69_code (2 : Nat) (Option.some Jvm.ClassFile.FieldType.int)).before args0 about1 = true := code_word (m := ⟨5, 1⟩) (meth := k5m1) (c := k5c1) (by decide +kernel) rfl rfl rfl (by decide +kernel)
set_option maxRecDepth 65536 in
theorem w_c9 : (Jvm.Cond.code ({ cls := "com/example/opaque_cohort/opaquecohort/CodeTallyCodesPinLaw", name := "held", desc := "(IIIIIZZ)Z" } : Jvm.MethodName) method_3_code (8 : Nat) (Option.some Jvm.ClassFile.FieldType.boolean)).before args0 about1 = true := code_word (m := ⟨1, 2⟩) (meth := k1m2) (c := k1c2) (by decide +kernel) rfl rfl rfl (by decide +kernel)
set_option maxRecDepth 65536 in
theorem w_c10 : (Jvm.Cond.code ({ cls := "com/example/opaque_cohort/opaquecohort/CodeTally", name := "codes", desc := "()[I" } : Jvm.MethodName) prog_1_method_6_code (1 : Nat) (Option.some (Jvm.ClassFile.FieldType.array Jvm.ClassFile.FieldType.int))).before args0 about1 = true := code_word (m := ⟨2, 3⟩) (meth := k2m3) (c := k2c3) (by decide +kernel) rfl rfl rfl (by decide +kernel)
set_option maxRecDepth 65536 in
theorem w_c11 : (Jvm.Cond.code ({ cls := "com/example/opaque_cohort/opaquecohort/CodeTally", name := "remove", desc := "(I)V" } : Jvm.MethodName) prog_1_method_3_code (3 : Nat) (Option.none : Option Jvm.ClassFile.FieldType)).before args0 about1 = true := code_word (m := ⟨2, 2⟩) (meth := k2m2) (c := k2c2) (by decide +kernel) rfl rfl rfl (by decide +kernel)
def codes1 : List Jvm.Cond := [Jvm.Cond.code x code maxLocals ret, Jvm.Cond.code ({ cls := "com/example/opaque_cohort/opaquecohort/CodeTally", name := "<init>", desc := "()V" } : Jvm.MethodName) prog_1_method_1_code (1 : Nat) (Option.none : Option Jvm.ClassFile.FieldType), Jvm.Cond.code ({ cls := "java/lang/Object", name := "<init>", desc := "()V" } : Jvm.MethodName) object_method_1_code (1 : Nat) (Option.none : Option Jvm.ClassFile.FieldType), Jvm.Cond.code ({ cls := "com/example/opaque_cohort/opaquecohort/CodeTally", name := "add", desc := "(I)V" } : Jvm.MethodName) prog_1_method_2_code (4 : Nat) (Option.none : Option Jvm.ClassFile.FieldType), Jvm.Cond.code ({ cls := "java/util/Arrays", name := "binarySearch", desc := "([IIII)I" } : Jvm.MethodName) jdk_65_method_58_code (4 : Nat) (Option.some Jvm.ClassFile.FieldType.int), Jvm.Cond.code ({ cls := "java/util/Arrays", name := "rangeCheck", desc := "(III)V" } : Jvm.MethodName) jdk_65_method_30_code (3 : Nat) (Option.none : Option Jvm.ClassFile.FieldType), Jvm.Cond.code ({ cls := "java/util/Arrays", name := "binarySearch0", desc := "([IIII)I" } : Jvm.MethodName) jdk_65_method_59_code (8 : Nat) (Option.some Jvm.ClassFile.FieldType.int), Jvm.Cond.code ({ cls := "java/util/Arrays", name := "copyOf", desc := "([II)[I" } : Jvm.MethodName) jdk_65_method_123_code (3 : Nat) (Option.some (Jvm.ClassFile.FieldType.array Jvm.ClassFile.FieldType.int)), Jvm.Cond.code ({ cls := "java/lang/Math", name := "min", desc := "(II)I" } : Jvm.MethodName) jdk_29_method_69_code (2 : Nat) (Option.some Jvm.ClassFile.FieldType.int), Jvm.Cond.code ({ cls := "com/example/opaque_cohort/opaquecohort/CodeTallyCodesPinLaw", name := "held", desc := "(IIIIIZZ)Z" } : Jvm.MethodName) method_3_code (8 : Nat) (Option.some Jvm.ClassFile.FieldType.boolean), Jvm.Cond.code ({ cls := "com/example/opaque_cohort/opaquecohort/CodeTally", name := "codes", desc := "()[I" } : Jvm.MethodName) prog_1_method_6_code (1 : Nat) (Option.some (Jvm.ClassFile.FieldType.array Jvm.ClassFile.FieldType.int)), Jvm.Cond.code ({ cls := "com/example/opaque_cohort/opaquecohort/CodeTally", name := "remove", desc := "(I)V" } : Jvm.MethodName) prog_1_method_3_code (3 : Nat) (Option.none : Option Jvm.ClassFile.FieldType)]
set_option maxRecDepth 65536 in
theorem codes_eq : words1.filter isCode = codes1 := rfl
theorem w_codes : ∀ c ∈ words1.filter isCode, c.before args0 about1 = true := by
  rw [codes_eq]
  intro c hc
  simp only [codes1, List.mem_cons, List.not_mem_nil, or_false] at hc
  rcases hc with rfl | rfl | rfl | rfl | rfl | rfl | rfl | rfl | rfl | rfl | rfl | rfl
  · exact w_c0
  · exact w_c1
  · exact w_c2
  · exact w_c3
  · exact w_c4
  · exact w_c5
  · exact w_c6
  · exact w_c7
  · exact w_c8
  · exact w_c9
  · exact w_c10
  · exact w_c11
set_option maxRecDepth 65536 in
theorem w_t1 : (words1.take 24).all (fun c => isCode c || c.before args0 about1) = true := by decide +kernel
set_option maxRecDepth 65536 in
theorem w_t2 : ((words1.drop 24).take 24).all (fun c => isCode c || c.before args0 about1) = true := by decide +kernel
set_option maxRecDepth 65536 in
theorem w_t3 : ((words1.drop 24).drop 24).all (fun c => isCode c || c.before args0 about1) = true := by decide +kernel
theorem w_tables : (allAtoms (Jvm.Cond.code x code maxLocals ret :: tables_1)).before args0 about1 = true := by
  rw [allAtoms_all]
  show words1.all (fun c => c.before args0 about1) = true
  refine all_split ?_ w_codes
  rw [← List.take_append_drop 24 words1, List.all_append, w_t1, ← List.take_append_drop 24 (words1.drop 24), List.all_append, w_t2, w_t3]
  rfl
set_option maxRecDepth 65536 in
theorem w_case : (Jvm.Cond.and given_1 narrow_1).before args0 about1 = true := by decide +kernel
theorem w_applies : (headSpec (Jvm.Cond.code x code maxLocals ret :: tables_1) room_1).applies x e0.platform about1 = true :=
  (Spec.applies_iff w_frames).mpr ⟨w_running, w_runnable, w_alone, w_named, w_hears, w_ripe, w_room, w_tables⟩
theorem atStart : AtStart classFile x code maxLocals ret World_1 tables_1 room_1 Calls_1 rest_1 Pre_1 launch0 p0 e0 about1 theMethod args0 below0 :=
  ⟨lists_1, trivial, launch0.admits_env _ _ _, launch0.least_env, fairChoices_fair.cas, fairChoices_fair.clock, w_frames, w_args, w_heap, w_applies, trivial, trivial, w_case⟩
end start1
theorem witness_1 : WitnessClaimed_1 := ⟨start1.p0, start1.e0, start1.about1, start1.theMethod, start1.args0, start1.below0, start1.atStart⟩
end Jvm.Pilot.@@N@@
