import JvmDerived
import JvmDerived.Pilot.@@N@@Statement
import JvmDerived.Pilot.@@N@@Code
set_option linter.unusedVariables false
set_option linter.unusedSimpArgs false


namespace Jvm.RoadKit
open Sem ClassFile Op Lib Jvm.Stand Jvm.Free Jvm.LawKit
section Own
variable {Z : State} {h h0 h' : Heap} {a b : Addr} {k : ClassId} {n j : Int32} {vs : List Value} {dv : Value}
theorem Arv.inb {ty : FieldType} (A : Arv Z h a k ty n vs dv) (h1 : ¬ j < 0) (h2 : j < n) : ∃ c, Arr Z h a c ty ∧ c.cls = k ∧ c.slots.size = n.toNatClampNeg ∧ ¬ n < 0 ∧ Has c vs dv ∧ (∀ i, i < c.slots.size → fits ty (vs.getD i dv) = true) ∧ ¬ (j < 0 ∨ c.slots.size ≤ j.toNatClampNeg) := by
  obtain ⟨c, A1, A2, A3, A4, A5, A6⟩ := A
  exact ⟨c, A1, A2, A3, A4, A5, A6, inb_of A3 ⟨h1, h2⟩⟩
theorem Ext.keepN (E : Ext h0 h) (K : Keep h h' [b]) (q : h0.size ≤ b) : Ext h0 h' := ⟨Nat.le_trans E.1 K.1, fun x c hx => K.2.1 x c (E.2 x c hx) fun z => by
  cases List.mem_singleton.mp z
  exact absurd (Array.getElem?_eq_some_iff.mp hx).1 (Nat.not_lt.mpr q)⟩
theorem Ext.keepL {ws : List Addr} (E : Ext h0 h) (K : Keep h h' ws) (q : ∀ x ∈ ws, h0.size ≤ x) : Ext h0 h' := ⟨Nat.le_trans E.1 K.1, fun x c hx => K.2.1 x c (E.2 x c hx) fun z => absurd (Array.getElem?_eq_some_iff.mp hx).1 (Nat.not_lt.mpr (q x z))⟩
theorem Ext.rfl' : Ext h h := ⟨Nat.le_refl _, fun _ _ q => q⟩
theorem Ext.tr {h1 : Heap} (E : Ext h h1) (E' : Ext h1 h') : Ext h h' := ⟨Nat.le_trans E.1 E'.1, fun x c q => E'.2 x c (E.2 x c q)⟩
theorem Ext.wrN {sl : Nat} {v : Value} (E : Ext h0 h) (W : Wr h h' a sl v) (q : h0.size ≤ a) : Ext h0 h' := E.keepN (Keep.of_wr W) q
end Own
end Jvm.RoadKit
namespace Jvm.OwnKit
open Sem ClassFile Op Lib Jvm.Stand Jvm.Free Jvm.LawKit Jvm.RoadKit
/-- the unsigned shifts, the comparing of longs, as the machine spells them -/
abbrev ushr (x y : Int32) : Int32 := (x.toUInt32 >>> (y &&& 31).toUInt32).toInt32
abbrev ushrL (x : Int64) (y : Int32) : Int64 := (x.toUInt64 >>> (y &&& 63).toInt64.toUInt64).toInt64
abbrev cmpL (x y : Int64) : Int32 := if x > y then 1 else if x = y then 0 else -1
/-- the data of one walk of one body -/
abbrev Cx : Type := Program × Launch × Env × Room × State × MethodId × Array Value × List Frame × Method × Code × Nat × (Option Value → Heap → Prop)
/-- from this pc, these locals, this stack and this heap the body comes to its end as promised -/
def Go : Cx → Heap → Nat → Nat → Nat → Array Slot → List Value → Prop
  | (p, l, e, R, s, m, args, below, meth, c, n0, Q), h, ce, sl, pc, ls, st =>
    ∀ (T : State) (locs : List Loc), Stand p l e R s m args below meth c T locs ce sl → T.heap = h → Fr n0 locs →
      ∃ (s₂ : State) (o : Outcome), Steps p.tables e below (T.setTop (mkF m pc ls st)) s₂ ∧ s₂.status = .running ∧ Ended s₂ below o ∧
        ∃ (v : Option Value) (L : List Loc), o = .returned v ∧ (Fr n0 L ∧ Q v s₂.heap) ∧ FrameEnd s o s₂ L R.cells R.slots
/-- what is known of a walk's data -/
def Amb : Cx → Launch → State → MethodName → ByteArray → Nat → Option FieldType → Room → Heap → Nat → (Option Value → Heap → Prop) → Prop
  | (p, l', e, R, s, m, args, below, meth, c, n0', Q'), l, Z, y, code, maxL, ret, rm, h0, n0, Q =>
    l' = l ∧ R = rm ∧ n0' = n0 ∧ (∀ v h, Q v h → Q' v h) ∧ p.tables.exec = Jvm.exec ∧ Z.Warmed39 s.vm ∧ s.vm.findClass y.cls = some m.cls ∧ c.code = code ∧ c.maxLocals = maxL ∧ meth.sig.returnType = ret ∧ meth.locks = false ∧ meth.name = y.name ∧ s.heap = h0
/-- a body's contract -/
def Con (l : Launch) (Z : State) (y : MethodName) (code : ByteArray) (maxL : Nat) (ret : Option FieldType) (rm : Room) (ws : List Jvm.Cond) (as : Array Value) (h0 : Heap) (n0 : Nat) (Q : Option Value → Heap → Prop) : Prop :=
  MetFree l y (head1 (Jvm.Cond.code y code maxL ret :: ws) rm) (fun a U => a = as ∧ Z.Warmed39 U.vm ∧ U.heap = h0) (fun _ _ _ _ _ => True)
    (fun _ U o U' => ∃ v L, o = .returned v ∧ (fun v h L => Fr n0 L ∧ Q v h) v U'.heap L ∧ FrameEnd U o U' L rm.cells rm.slots)
section Rules
variable {κ : Cx} {l : Launch} {Z : State} {y : MethodName} {code : ByteArray} {maxL : Nat} {ret : Option FieldType} {rm : Room} {ws : List Jvm.Cond} {as a0 : Array Value} {h h0 h' : Heap} {n0 : Nat} {Q Q' : Option Value → Heap → Prop} {ce sl ce' sl' pc pc' pc2 : Nat} {ls ls' : Array Slot} {st st' rest : List Value}
theorem Con.of_go (hpl : plainFor y = true) (hef : ∀ m, entryFrame m as maxL = mkF m 0 ls []) (H : ∀ κ : Cx, Amb κ l Z y code maxL ret rm h0 n0 Q → Go κ h0 0 0 0 ls []) : Con l Z y code maxL ret rm ws as h0 n0 Q := by
  refine MetFree.of_bodySF hpl hisR ?_
  intro p e s m args below meth c s₁ Bd hml0 hP hK
  obtain ⟨rfl, hZ, hh⟩ := hP
  have X0 : Stand p l e rm s m args below meth c s₁ [] 0 0 := Stand.of_body Bd
  have e0 : s₁.heap = h0 := by rw [← hh, Bd.state]; rfl
  obtain ⟨s₂, o, hst, hr, he, hq⟩ := H (p, l, e, rm, s, m, args, below, meth, c, n0, Q) ⟨rfl, rfl, rfl, fun _ _ q => q, Bd.exec, hZ, findClass_of_methodNamed Bd.named, Bd.bytes, hml0, Bd.returns, BodyLoose.notSynchronized Bd, (name_of_methodNamed Bd.named Bd.method).1, hh⟩ s₁ [] X0 e0 (Fr.nil _)
  exact ⟨s₂, o, castTop (hef m) hst, hr, he, hq⟩
theorem Con.mono (M : Con l Z y code maxL ret rm ws as h0 n0 Q) (hq : ∀ v h, Q v h → Q' v h) : Con l Z y code maxL ret rm ws as h0 n0 Q' := by
  intro p e a1 a2 a3 s m args below a4 a5 a6 a7
  obtain ⟨n, o, b1, b2, b3, v, L, b4, b5, b6⟩ := M p e a1 a2 a3 s m args below a4 a5 a6 a7
  exact ⟨n, o, b1, b2, b3, v, L, b4, ⟨b5.1, hq _ _ b5.2⟩, b6⟩
theorem Go.pure (D : Amb κ l Z y code maxL ret rm h0 n0 Q)
    (f : ∀ (p : Program) (e : Env) (below : List Frame) (T t : State) (m : MethodId) (c : Code), p.tables.exec = Jvm.exec → c.code = code → At T m c below → Steps p.tables e below (T.setTop (mkF m pc' ls' st')) t → Steps p.tables e below (T.setTop (mkF m pc ls st)) t)
    (G : Go κ h ce sl pc' ls' st') : Go κ h ce sl pc ls st := by
  obtain ⟨p, l', e, R, s, m, args, below, meth, c, n0', Q'⟩ := κ
  obtain ⟨rfl, rfl, rfl, hQ, hx, hZ, hown, hby, hml, hret, hlk, hnm, hh⟩ := D
  intro T locs X eT N
  obtain ⟨s₂, o, h1, h2⟩ := G T locs X eT N
  exact ⟨s₂, o, f p e below T s₂ m c hx hby X.here h1, h2⟩
/-- a step that asks the walk's standing, the heap as it was -/
theorem Go.calm (D : Amb κ l Z y code maxL ret rm h0 n0 Q)
    (f : ∀ (p : Program) (e : Env) (s : State) (m : MethodId) (args : Array Value) (below : List Frame) (meth : Method) (c : Code) (T : State) (locs : List Loc), p.tables.exec = Jvm.exec → Z.Warmed39 s.vm → s.vm.findClass y.cls = some m.cls → c.code = code → c.maxLocals = maxL → s.heap = h0 → Stand p l e rm s m args below meth c T locs ce sl → T.heap = h → ∃ T', Stand p l e rm s m args below meth c T' locs ce sl ∧ T'.heap = h ∧ ∀ t, Steps p.tables e below (T'.setTop (mkF m pc' ls' st')) t → Steps p.tables e below (T.setTop (mkF m pc ls st)) t)
    (G : Go κ h ce sl pc' ls' st') : Go κ h ce sl pc ls st := by
  obtain ⟨p, l', e, R, s, m, args, below, meth, c, n0', Q'⟩ := κ
  obtain ⟨rfl, rfl, rfl, hQ, hx, hZ, hown, hby, hml, hret, hlk, hnm, hh⟩ := D
  intro T locs X eT N
  obtain ⟨T', X', eT', k⟩ := f p e s m args below meth c T locs hx hZ hown hby hml hh X eT
  obtain ⟨s₂, o, h1, h2⟩ := G T' locs X' eT' N
  exact ⟨s₂, o, k _ h1, h2⟩
/-- what a step may write -/
def Gw (h h' : Heap) (n0 : Nat) : Prop := ∃ ws : List Addr, Keep h h' ws ∧ ∀ x ∈ ws, n0 ≤ x
theorem Gw.ext (E : Ext h h') : Gw h h' n0 := ⟨[], (Keep.refl _ _).ext E, fun _ q => nomatch q⟩
theorem Gw.one {a : Addr} (K : Keep h h' [a]) (q : n0 ≤ a) : Gw h h' n0 := ⟨[a], K, fun x z => by cases List.mem_singleton.mp z; exact q⟩
/-- a step that turns the heap -/
theorem Go.turn (D : Amb κ l Z y code maxL ret rm h0 n0 Q) {P : Heap → Prop}
    (f : ∀ (p : Program) (e : Env) (s : State) (m : MethodId) (args : Array Value) (below : List Frame) (meth : Method) (c : Code) (T : State) (locs : List Loc), p.tables.exec = Jvm.exec → Z.Warmed39 s.vm → s.vm.findClass y.cls = some m.cls → c.code = code → c.maxLocals = maxL → meth.name = y.name → Stand p l e rm s m args below meth c T locs ce sl → T.heap = h → Fr n0 locs → ∃ T' locs' h', Stand p l e rm s m args below meth c T' locs' ce' sl' ∧ T'.heap = h' ∧ Fr n0 locs' ∧ Gw h h' n0 ∧ P h' ∧ ∀ t, Steps p.tables e below (T'.setTop (mkF m pc' ls' st')) t → Steps p.tables e below (T.setTop (mkF m pc ls st)) t)
    (G : ∀ h', P h' → Go κ h' ce' sl' pc' ls' st') : Go κ h ce sl pc ls st := by
  obtain ⟨p, l', e, R, s, m, args, below, meth, c, n0', Q'⟩ := κ
  obtain ⟨rfl, rfl, rfl, hQ, hx, hZ, hown, hby, hml, hret, hlk, hnm, hh⟩ := D
  intro T locs X eT N
  obtain ⟨T', locs', h', X', eT', N', -, hP, k⟩ := f p e s m args below meth c T locs hx hZ hown hby hml hnm X eT N
  obtain ⟨s₂, o, h1, h2⟩ := G h' hP T' locs' X' eT' N'
  exact ⟨s₂, o, k _ h1, h2⟩
theorem sd_mono {p : Program} {e : Env} {R : Room} {s : State} {m : MethodId} {args : Array Value} {below : List Frame} {meth : Method} {c : Code} {T : State} {locs : List Loc} (X : Stand p l e R s m args below meth c T locs ce sl) (h1 : ce ≤ ce') (h2 : sl ≤ sl') : Stand p l e R s m args below meth c T locs ce' sl' :=
  { X with same := X.same.mono h1 h2 }
theorem Go.up (h1 : ce ≤ ce') (h2 : sl ≤ sl') (G : Go κ h ce' sl' pc ls st) : Go κ h ce sl pc ls st := by
  obtain ⟨p, l', e, R, s, m, args, below, meth, c, n0', Q'⟩ := κ
  intro T locs X eT N
  exact G T locs (sd_mono X h1 h2) eT N
/-! returns -/
theorem Go.ret1 (D : Amb κ l Z y code maxL ret rm h0 n0 Q) {i : Instr} {t : FieldType} {w : Value} (hret' : ret = some t) (hn : narrow t w = w)
    (hi : (i = .ireturn ∧ (t = .int ∨ t = .boolean ∨ t = .byte ∨ t = .char ∨ t = .short) ∧ ∃ z, w = .int z) ∨ (i = .lreturn ∧ t = .long ∧ ∃ z, w = .long z) ∨ (i = .dreturn ∧ t = .double ∧ ∃ z, w = .double z) ∨ (i = .freturn ∧ t = .float ∧ ∃ z, w = .float z) ∨ (i = .areturn ∧ t.isReference = true ∧ w.isRef = true))
    (hd : decode code pc = .ok (i, 1)) (hc : ce ≤ rm.cells) (hs : sl ≤ rm.slots) (q : Q (some w) h) : Go κ h ce sl pc ls (w :: rest) := by
  obtain ⟨p, l', e, R, s, m, args, below, meth, c, n0', Q'⟩ := κ
  obtain ⟨rfl, rfl, rfl, hQ, hx, hZ, hown, hby, hml, hret, hlk, hnm, hh⟩ := D
  intro T locs X eT N
  have hr2 : meth.sig.returnType = some t := hret.trans hret'
  obtain ⟨fs, hr, hrun, hended, hW, hsame⟩ := X.leave (v := some w) (fun h => by rw [hr2] at h; cases h) hlk
  refine ⟨_, _, retOut X hx hr2 hn hi (hb hby hd) hr, hrun, hended, _, _, rfl, ⟨N, hQ _ _ ?_⟩, ⟨_, rfl⟩, hW, hsame.mono hc hs⟩
  show Q (some w) T.heap
  rw [eT]; exact q
theorem Go.iret (D : Amb κ l Z y code maxL ret rm h0 n0 Q) {x : Int32} (hret' : ret = some .int) (hd : decode code pc = .ok (.ireturn, 1)) (hc : ce ≤ rm.cells) (hs : sl ≤ rm.slots) (q : Q (some (.int x)) h) : Go κ h ce sl pc ls (.int x :: rest) :=
  Go.ret1 D hret' rfl (Or.inl ⟨rfl, Or.inl rfl, _, rfl⟩) hd hc hs q
theorem Go.zret (D : Amb κ l Z y code maxL ret rm h0 n0 Q) {x : Int32} (hret' : ret = some .boolean) (hx : narrow .boolean (.int x) = .int x) (hd : decode code pc = .ok (.ireturn, 1)) (hc : ce ≤ rm.cells) (hs : sl ≤ rm.slots) (q : Q (some (.int x)) h) : Go κ h ce sl pc ls (.int x :: rest) :=
  Go.ret1 D hret' hx (Or.inl ⟨rfl, Or.inr (Or.inl rfl), _, rfl⟩) hd hc hs q
theorem Go.cret (D : Amb κ l Z y code maxL ret rm h0 n0 Q) {x : Int32} (hret' : ret = some .char) (hx : narrow .char (.int x) = .int x) (hd : decode code pc = .ok (.ireturn, 1)) (hc : ce ≤ rm.cells) (hs : sl ≤ rm.slots) (q : Q (some (.int x)) h) : Go κ h ce sl pc ls (.int x :: rest) :=
  Go.ret1 D hret' hx (Or.inl ⟨rfl, Or.inr (Or.inr (Or.inr (Or.inl rfl))), _, rfl⟩) hd hc hs q
theorem Go.bret (D : Amb κ l Z y code maxL ret rm h0 n0 Q) {x : Int32} (hret' : ret = some .byte) (hx : narrow .byte (.int x) = .int x) (hd : decode code pc = .ok (.ireturn, 1)) (hc : ce ≤ rm.cells) (hs : sl ≤ rm.slots) (q : Q (some (.int x)) h) : Go κ h ce sl pc ls (.int x :: rest) :=
  Go.ret1 D hret' hx (Or.inl ⟨rfl, Or.inr (Or.inr (Or.inl rfl)), _, rfl⟩) hd hc hs q
theorem Go.aret (D : Amb κ l Z y code maxL ret rm h0 n0 Q) {t : FieldType} {a : Addr} (hret' : ret = some t) (ht : t.isReference = true) (hn : narrow t (.ref a) = .ref a) (hd : decode code pc = .ok (.areturn, 1)) (hc : ce ≤ rm.cells) (hs : sl ≤ rm.slots) (q : Q (some (.ref a)) h) : Go κ h ce sl pc ls (.ref a :: rest) :=
  Go.ret1 D hret' hn (Or.inr (Or.inr (Or.inr (Or.inr ⟨rfl, ht, rfl⟩)))) hd hc hs q
theorem Go.lret (D : Amb κ l Z y code maxL ret rm h0 n0 Q) {x : Int64} (hret' : ret = some .long) (hd : decode code pc = .ok (.lreturn, 1)) (hc : ce ≤ rm.cells) (hs : sl ≤ rm.slots) (q : Q (some (.long x)) h) : Go κ h ce sl pc ls (.long x :: rest) :=
  Go.ret1 D hret' rfl (Or.inr (Or.inl ⟨rfl, rfl, _, rfl⟩)) hd hc hs q
theorem Go.vret (D : Amb κ l Z y code maxL ret rm h0 n0 Q) (hret' : ret = none) (hd : decode code pc = .ok (.return_, 1)) (hc : ce ≤ rm.cells) (hs : sl ≤ rm.slots) (q : Q none h) : Go κ h ce sl pc ls [] := by
  obtain ⟨p, l', e, R, s, m, args, below, meth, c, n0', Q'⟩ := κ
  obtain ⟨rfl, rfl, rfl, hQ, hx, hZ, hown, hby, hml, hret, hlk, hnm, hh⟩ := D
  intro T locs X eT N
  have hr2 : meth.sig.returnType = none := hret.trans hret'
  obtain ⟨fs, hr, hrun, hended, hW, hsame⟩ := X.leave (v := none) (fun _ => rfl) hlk
  refine ⟨_, _, X.returnOut hx hr2 (hb hby hd) hr, hrun, hended, _, _, rfl, ⟨N, hQ _ _ ?_⟩, ⟨_, rfl⟩, hW, hsame.mono hc hs⟩
  show Q none T.heap
  rw [eT]; exact q
/-! branches -/
def cy : ClassFile.Cond → Int32 → Int32 → Prop
  | .eq, x, y => x = y
  | .ne, x, y => ¬ x = y
  | .lt, x, y => x < y
  | .ge, x, y => ¬ x < y
  | .gt, x, y => y < x
  | .le, x, y => ¬ y < x
def cn : ClassFile.Cond → Int32 → Int32 → Prop
  | .eq, x, y => ¬ x = y
  | .ne, x, y => x = y
  | .lt, x, y => ¬ x < y
  | .ge, x, y => x < y
  | .gt, x, y => ¬ y < x
  | .le, x, y => y < x
theorem icmp_dec (cd : ClassFile.Cond) (x y : Int32) : (if_icmp.holds cd x y = true ∧ cy cd x y) ∨ (if_icmp.holds cd x y = false ∧ cn cd x y) := by
  cases cd <;> simp only [if_icmp.holds, cy, cn, beq_iff_eq, bne_iff_ne, ne_eq, decide_eq_true_eq, decide_eq_false_iff_not, beq_eq_false_iff_ne, bne_eq_false_iff_eq, Int32.not_lt, gt_iff_lt, ge_iff_le, Int32.not_le]
  · by_cases q : x = y <;> simp [q]
  · by_cases q : x = y <;> simp [q]
  · rcases Int32.lt_or_le x y with q | q <;> simp [q]
  · rcases Int32.lt_or_le x y with q | q <;> simp [q]
  · rcases Int32.lt_or_le y x with q | q <;> simp [q]
  · rcases Int32.lt_or_le y x with q | q <;> simp [q]
theorem ifc_dec (cd : ClassFile.Cond) (x : Int32) : (ifCond.holds cd x = true ∧ cy cd x 0) ∨ (ifCond.holds cd x = false ∧ cn cd x 0) := by
  cases cd <;> simp only [ifCond.holds, cy, cn, beq_iff_eq, bne_iff_ne, ne_eq, decide_eq_true_eq, decide_eq_false_iff_not, beq_eq_false_iff_ne, bne_eq_false_iff_eq, Int32.not_lt, gt_iff_lt, ge_iff_le, Int32.not_le]
  · by_cases q : x = 0 <;> simp [q]
  · by_cases q : x = 0 <;> simp [q]
  · rcases Int32.lt_or_le x 0 with q | q <;> simp [q]
  · rcases Int32.lt_or_le x 0 with q | q <;> simp [q]
  · rcases Int32.lt_or_le 0 x with q | q <;> simp [q]
  · rcases Int32.lt_or_le 0 x with q | q <;> simp [q]
theorem Go.ifc (D : Amb κ l Z y code maxL ret rm h0 n0 Q) {cd : ClassFile.Cond} {o : Int} {x : Int32} (hd : decode code pc = .ok (.ifCond cd o, 3)) (ho : 0 ≤ (pc : Int) + o) (hp : ((pc : Int) + o).toNat = pc') (hp2 : pc + 3 = pc2)
    (Gt : cy cd x 0 → Go κ h ce sl pc' ls rest) (Gf : cn cd x 0 → Go κ h ce sl pc2 ls rest) : Go κ h ce sl pc ls (.int x :: rest) := by
  subst hp2
  rcases ifc_dec cd x with ⟨q1, q2⟩ | ⟨q1, q2⟩
  · exact Go.pure D (fun p e below T t m c hx hby hT k => XS.ifYes hT hx rfl rfl (hb hby hd) rfl q1 ho hp k) (Gt q2)
  · exact Go.pure D (fun p e below T t m c hx hby hT k => XS.ifNo hT hx rfl (hb hby hd) rfl q1 k) (Gf q2)
theorem Go.icmp (D : Amb κ l Z y code maxL ret rm h0 n0 Q) {cd : ClassFile.Cond} {o : Int} {x z : Int32} (hd : decode code pc = .ok (.if_icmp cd o, 3)) (ho : 0 ≤ (pc : Int) + o) (hp : ((pc : Int) + o).toNat = pc') (hp2 : pc + 3 = pc2)
    (Gt : cy cd x z → Go κ h ce sl pc' ls rest) (Gf : cn cd x z → Go κ h ce sl pc2 ls rest) : Go κ h ce sl pc ls (.int z :: .int x :: rest) := by
  subst hp2
  rcases icmp_dec cd x z with ⟨q1, q2⟩ | ⟨q1, q2⟩
  · exact Go.pure D (fun p e below T t m c hx hby hT k => XS.icmpYes hT hx rfl rfl (hb hby hd) rfl q1 ho hp k) (Gt q2)
  · exact Go.pure D (fun p e below T t m c hx hby hT k => XS.icmpNo hT hx rfl (hb hby hd) rfl q1 k) (Gf q2)
theorem Go.iloadN (D : Amb κ l Z y code maxL ret rm h0 n0 Q) {k : Fin 4} {v : Int32} (hd : decode code pc = .ok (.iload_n k, 1)) (hp : pc + 1 = pc') (hl : ls[k.val]? = some (.val (.int v))) (G : Go κ h ce sl pc' ls (.int v :: st)) : Go κ h ce sl pc ls (st) := by
  subst hp
  exact Go.pure D (fun p e below T t m c hx hby hT k' => XS.iloadN hT hx rfl (hb hby hd) hl k') G
theorem Go.iload (D : Amb κ l Z y code maxL ret rm h0 n0 Q) {k : Nat} {v : Int32} (hd : decode code pc = .ok (.iload k, 2)) (hp : pc + 2 = pc') (hl : ls[k]? = some (.val (.int v))) (G : Go κ h ce sl pc' ls (.int v :: st)) : Go κ h ce sl pc ls (st) := by
  subst hp
  exact Go.pure D (fun p e below T t m c hx hby hT k' => XS.iload hT hx rfl (hb hby hd) hl k') G
theorem Go.aloadN (D : Amb κ l Z y code maxL ret rm h0 n0 Q) {k : Fin 4} {v : Value} (hd : decode code pc = .ok (.aload_n k, 1)) (hp : pc + 1 = pc') (hl : ls[k.val]? = some (.val v)) (hv : v.isRef = true) (G : Go κ h ce sl pc' ls (v :: st)) : Go κ h ce sl pc ls (st) := by
  subst hp
  exact Go.pure D (fun p e below T t m c hx hby hT k' => XS.aloadN hT hx rfl (hb hby hd) hl hv k') G
theorem Go.aload (D : Amb κ l Z y code maxL ret rm h0 n0 Q) {k : Nat} {v : Value} (hd : decode code pc = .ok (.aload k, 2)) (hp : pc + 2 = pc') (hl : ls[k]? = some (.val v)) (hv : v.isRef = true) (G : Go κ h ce sl pc' ls (v :: st)) : Go κ h ce sl pc ls (st) := by
  subst hp
  exact Go.pure D (fun p e below T t m c hx hby hT k' => XS.aload hT hx rfl (hb hby hd) hl hv k') G
theorem Go.lloadN (D : Amb κ l Z y code maxL ret rm h0 n0 Q) {k : Fin 4} {v : Int64} (hd : decode code pc = .ok (.lload_n k, 1)) (hp : pc + 1 = pc') (hl : ls[k.val]? = some (.val (.long v))) (G : Go κ h ce sl pc' ls (.long v :: st)) : Go κ h ce sl pc ls (st) := by
  subst hp
  exact Go.pure D (fun p e below T t m c hx hby hT k' => XS.lloadN hT hx rfl (hb hby hd) hl k') G
theorem Go.lload (D : Amb κ l Z y code maxL ret rm h0 n0 Q) {k : Nat} {v : Int64} (hd : decode code pc = .ok (.lload k, 2)) (hp : pc + 2 = pc') (hl : ls[k]? = some (.val (.long v))) (G : Go κ h ce sl pc' ls (.long v :: st)) : Go κ h ce sl pc ls (st) := by
  subst hp
  exact Go.pure D (fun p e below T t m c hx hby hT k' => XS.lload hT hx rfl (hb hby hd) hl k') G
theorem Go.iconst (D : Amb κ l Z y code maxL ret rm h0 n0 Q) {i : Int} {v : Int32} (hd : decode code pc = .ok (.iconst i, 1)) (hp : pc + 1 = pc') (hv : Int32.ofInt i = v) (G : Go κ h ce sl pc' ls (.int v :: st)) : Go κ h ce sl pc ls (st) := by
  subst hp hv
  exact Go.pure D (fun p e below T t m c hx hby hT k' => XS.iconst hT hx rfl (hb hby hd) k') G
theorem Go.bipush (D : Amb κ l Z y code maxL ret rm h0 n0 Q) {i : Int} {v : Int32} (hd : decode code pc = .ok (.bipush i, 2)) (hp : pc + 2 = pc') (hv : (Int8.ofInt i).toInt32 = v) (G : Go κ h ce sl pc' ls (.int v :: st)) : Go κ h ce sl pc ls (st) := by
  subst hp hv
  exact Go.pure D (fun p e below T t m c hx hby hT k' => XS.bipush hT hx rfl (hb hby hd) k') G
theorem Go.sipush (D : Amb κ l Z y code maxL ret rm h0 n0 Q) {i : Int} {v : Int32} (hd : decode code pc = .ok (.sipush i, 3)) (hp : pc + 3 = pc') (hv : (Int16.ofInt i).toInt32 = v) (G : Go κ h ce sl pc' ls (.int v :: st)) : Go κ h ce sl pc ls (st) := by
  subst hp hv
  exact Go.pure D (fun p e below T t m c hx hby hT k' => XS.sipush hT hx rfl (hb hby hd) k') G
theorem Go.lconst (D : Amb κ l Z y code maxL ret rm h0 n0 Q) {k : Fin 2} {v : Int64} (hd : decode code pc = .ok (.lconst k, 1)) (hp : pc + 1 = pc') (hv : Int64.ofNat k = v) (G : Go κ h ce sl pc' ls (.long v :: st)) : Go κ h ce sl pc ls (st) := by
  subst hp hv
  exact Go.pure D (fun p e below T t m c hx hby hT k' => XS.lconst hT hx rfl (hb hby hd) k') G
theorem Go.aconstNull (D : Amb κ l Z y code maxL ret rm h0 n0 Q)  (hd : decode code pc = .ok (.aconst_null, 1)) (hp : pc + 1 = pc')  (G : Go κ h ce sl pc' ls (.null :: st)) : Go κ h ce sl pc ls (st) := by
  subst hp
  exact Go.pure D (fun p e below T t m c hx hby hT k' => XS.aconstNull hT hx rfl (hb hby hd) k') G
theorem Go.iadd (D : Amb κ l Z y code maxL ret rm h0 n0 Q) {x z : Int32} (hd : decode code pc = .ok (.iadd, 1)) (hp : pc + 1 = pc')  (G : Go κ h ce sl pc' ls (.int (x + z) :: rest)) : Go κ h ce sl pc ls (.int z :: .int x :: rest) := by
  subst hp
  exact Go.pure D (fun p e below T t m c hx hby hT k' => XS.iadd hT hx rfl (hb hby hd) rfl k') G
theorem Go.isub (D : Amb κ l Z y code maxL ret rm h0 n0 Q) {x z : Int32} (hd : decode code pc = .ok (.isub, 1)) (hp : pc + 1 = pc')  (G : Go κ h ce sl pc' ls (.int (x - z) :: rest)) : Go κ h ce sl pc ls (.int z :: .int x :: rest) := by
  subst hp
  exact Go.pure D (fun p e below T t m c hx hby hT k' => XS.isub hT hx rfl (hb hby hd) rfl k') G
theorem Go.iand (D : Amb κ l Z y code maxL ret rm h0 n0 Q) {x z : Int32} (hd : decode code pc = .ok (.iand, 1)) (hp : pc + 1 = pc')  (G : Go κ h ce sl pc' ls (.int (x &&& z) :: rest)) : Go κ h ce sl pc ls (.int z :: .int x :: rest) := by
  subst hp
  exact Go.pure D (fun p e below T t m c hx hby hT k' => XS.iand hT hx rfl (hb hby hd) rfl k') G
theorem Go.imul (D : Amb κ l Z y code maxL ret rm h0 n0 Q) {x z : Int32} (hd : decode code pc = .ok (.imul, 1)) (hp : pc + 1 = pc')  (G : Go κ h ce sl pc' ls (.int (x * z) :: rest)) : Go κ h ce sl pc ls (.int z :: .int x :: rest) := by
  subst hp
  exact Go.pure D (fun p e below T t m c hx hby hT k' => XS.imul hT hx rfl (hb hby hd) rfl k') G
theorem Go.ixor (D : Amb κ l Z y code maxL ret rm h0 n0 Q) {x z : Int32} (hd : decode code pc = .ok (.ixor, 1)) (hp : pc + 1 = pc')  (G : Go κ h ce sl pc' ls (.int (x ^^^ z) :: rest)) : Go κ h ce sl pc ls (.int z :: .int x :: rest) := by
  subst hp
  exact Go.pure D (fun p e below T t m c hx hby hT k' => XS.ixor hT hx rfl (hb hby hd) rfl k') G
theorem Go.ior (D : Amb κ l Z y code maxL ret rm h0 n0 Q) {x z : Int32} (hd : decode code pc = .ok (.ior, 1)) (hp : pc + 1 = pc')  (G : Go κ h ce sl pc' ls (.int (x ||| z) :: rest)) : Go κ h ce sl pc ls (.int z :: .int x :: rest) := by
  subst hp
  exact Go.pure D (fun p e below T t m c hx hby hT k' => XS.ior hT hx rfl (hb hby hd) rfl k') G
theorem Go.ishl (D : Amb κ l Z y code maxL ret rm h0 n0 Q) {x z : Int32} (hd : decode code pc = .ok (.ishl, 1)) (hp : pc + 1 = pc')  (G : Go κ h ce sl pc' ls (.int (x <<< (z &&& 31)) :: rest)) : Go κ h ce sl pc ls (.int z :: .int x :: rest) := by
  subst hp
  exact Go.pure D (fun p e below T t m c hx hby hT k' => XS.ishl hT hx rfl (hb hby hd) rfl k') G
theorem Go.ishr (D : Amb κ l Z y code maxL ret rm h0 n0 Q) {x z : Int32} (hd : decode code pc = .ok (.ishr, 1)) (hp : pc + 1 = pc')  (G : Go κ h ce sl pc' ls (.int (x >>> (z &&& 31)) :: rest)) : Go κ h ce sl pc ls (.int z :: .int x :: rest) := by
  subst hp
  exact Go.pure D (fun p e below T t m c hx hby hT k' => XS.ishr hT hx rfl (hb hby hd) rfl k') G
theorem Go.iushr (D : Amb κ l Z y code maxL ret rm h0 n0 Q) {x z : Int32} (hd : decode code pc = .ok (.iushr, 1)) (hp : pc + 1 = pc')  (G : Go κ h ce sl pc' ls (.int (ushr x z) :: rest)) : Go κ h ce sl pc ls (.int z :: .int x :: rest) := by
  subst hp
  exact Go.pure D (fun p e below T t m c hx hby hT k' => XS.iushr hT hx rfl (hb hby hd) rfl k') G
theorem Go.ladd (D : Amb κ l Z y code maxL ret rm h0 n0 Q) {x z : Int64} (hd : decode code pc = .ok (.ladd, 1)) (hp : pc + 1 = pc')  (G : Go κ h ce sl pc' ls (.long (x + z) :: rest)) : Go κ h ce sl pc ls (.long z :: .long x :: rest) := by
  subst hp
  exact Go.pure D (fun p e below T t m c hx hby hT k' => XS.ladd hT hx rfl (hb hby hd) rfl k') G
theorem Go.lsub (D : Amb κ l Z y code maxL ret rm h0 n0 Q) {x z : Int64} (hd : decode code pc = .ok (.lsub, 1)) (hp : pc + 1 = pc')  (G : Go κ h ce sl pc' ls (.long (x - z) :: rest)) : Go κ h ce sl pc ls (.long z :: .long x :: rest) := by
  subst hp
  exact Go.pure D (fun p e below T t m c hx hby hT k' => XS.lsub hT hx rfl (hb hby hd) rfl k') G
theorem Go.lmul (D : Amb κ l Z y code maxL ret rm h0 n0 Q) {x z : Int64} (hd : decode code pc = .ok (.lmul, 1)) (hp : pc + 1 = pc')  (G : Go κ h ce sl pc' ls (.long (x * z) :: rest)) : Go κ h ce sl pc ls (.long z :: .long x :: rest) := by
  subst hp
  exact Go.pure D (fun p e below T t m c hx hby hT k' => XS.lmul hT hx rfl (hb hby hd) rfl k') G
theorem Go.land (D : Amb κ l Z y code maxL ret rm h0 n0 Q) {x z : Int64} (hd : decode code pc = .ok (.land, 1)) (hp : pc + 1 = pc')  (G : Go κ h ce sl pc' ls (.long (x &&& z) :: rest)) : Go κ h ce sl pc ls (.long z :: .long x :: rest) := by
  subst hp
  exact Go.pure D (fun p e below T t m c hx hby hT k' => XS.land hT hx rfl (hb hby hd) rfl k') G
theorem Go.lor (D : Amb κ l Z y code maxL ret rm h0 n0 Q) {x z : Int64} (hd : decode code pc = .ok (.lor, 1)) (hp : pc + 1 = pc')  (G : Go κ h ce sl pc' ls (.long (x ||| z) :: rest)) : Go κ h ce sl pc ls (.long z :: .long x :: rest) := by
  subst hp
  exact Go.pure D (fun p e below T t m c hx hby hT k' => XS.lor hT hx rfl (hb hby hd) rfl k') G
theorem Go.lxor (D : Amb κ l Z y code maxL ret rm h0 n0 Q) {x z : Int64} (hd : decode code pc = .ok (.lxor, 1)) (hp : pc + 1 = pc')  (G : Go κ h ce sl pc' ls (.long (x ^^^ z) :: rest)) : Go κ h ce sl pc ls (.long z :: .long x :: rest) := by
  subst hp
  exact Go.pure D (fun p e below T t m c hx hby hT k' => XS.lxor hT hx rfl (hb hby hd) rfl k') G
theorem Go.lshl (D : Amb κ l Z y code maxL ret rm h0 n0 Q) {x : Int64} {z : Int32} (hd : decode code pc = .ok (.lshl, 1)) (hp : pc + 1 = pc')  (G : Go κ h ce sl pc' ls (.long (x <<< (z &&& 63).toInt64) :: rest)) : Go κ h ce sl pc ls (.int z :: .long x :: rest) := by
  subst hp
  exact Go.pure D (fun p e below T t m c hx hby hT k' => XS.lshl hT hx rfl (hb hby hd) rfl k') G
theorem Go.lshr (D : Amb κ l Z y code maxL ret rm h0 n0 Q) {x : Int64} {z : Int32} (hd : decode code pc = .ok (.lshr, 1)) (hp : pc + 1 = pc')  (G : Go κ h ce sl pc' ls (.long (x >>> (z &&& 63).toInt64) :: rest)) : Go κ h ce sl pc ls (.int z :: .long x :: rest) := by
  subst hp
  exact Go.pure D (fun p e below T t m c hx hby hT k' => XS.lshr hT hx rfl (hb hby hd) rfl k') G
theorem Go.lushr (D : Amb κ l Z y code maxL ret rm h0 n0 Q) {x : Int64} {z : Int32} (hd : decode code pc = .ok (.lushr, 1)) (hp : pc + 1 = pc')  (G : Go κ h ce sl pc' ls (.long (ushrL x z) :: rest)) : Go κ h ce sl pc ls (.int z :: .long x :: rest) := by
  subst hp
  exact Go.pure D (fun p e below T t m c hx hby hT k' => XS.lushr hT hx rfl (hb hby hd) rfl k') G
theorem Go.ineg (D : Amb κ l Z y code maxL ret rm h0 n0 Q) {x : Int32} (hd : decode code pc = .ok (.ineg, 1)) (hp : pc + 1 = pc')  (G : Go κ h ce sl pc' ls (.int (-x) :: rest)) : Go κ h ce sl pc ls (.int x :: rest) := by
  subst hp
  exact Go.pure D (fun p e below T t m c hx hby hT k' => XS.ineg hT hx rfl (hb hby hd) rfl k') G
theorem Go.lneg (D : Amb κ l Z y code maxL ret rm h0 n0 Q) {x : Int64} (hd : decode code pc = .ok (.lneg, 1)) (hp : pc + 1 = pc')  (G : Go κ h ce sl pc' ls (.long (-x) :: rest)) : Go κ h ce sl pc ls (.long x :: rest) := by
  subst hp
  exact Go.pure D (fun p e below T t m c hx hby hT k' => XS.lneg hT hx rfl (hb hby hd) rfl k') G
theorem Go.i2l (D : Amb κ l Z y code maxL ret rm h0 n0 Q) {x : Int32} (hd : decode code pc = .ok (.i2l, 1)) (hp : pc + 1 = pc')  (G : Go κ h ce sl pc' ls (.long (x.toInt64) :: rest)) : Go κ h ce sl pc ls (.int x :: rest) := by
  subst hp
  exact Go.pure D (fun p e below T t m c hx hby hT k' => XS.i2l hT hx rfl (hb hby hd) rfl k') G
theorem Go.l2i (D : Amb κ l Z y code maxL ret rm h0 n0 Q) {x : Int64} (hd : decode code pc = .ok (.l2i, 1)) (hp : pc + 1 = pc')  (G : Go κ h ce sl pc' ls (.int (x.toInt32) :: rest)) : Go κ h ce sl pc ls (.long x :: rest) := by
  subst hp
  exact Go.pure D (fun p e below T t m c hx hby hT k' => XS.l2i hT hx rfl (hb hby hd) rfl k') G
theorem Go.i2b (D : Amb κ l Z y code maxL ret rm h0 n0 Q) {x : Int32} (hd : decode code pc = .ok (.i2b, 1)) (hp : pc + 1 = pc')  (G : Go κ h ce sl pc' ls (.int (x.toInt8.toInt32) :: rest)) : Go κ h ce sl pc ls (.int x :: rest) := by
  subst hp
  exact Go.pure D (fun p e below T t m c hx hby hT k' => XS.i2b hT hx rfl (hb hby hd) rfl k') G
theorem Go.i2c (D : Amb κ l Z y code maxL ret rm h0 n0 Q) {x : Int32} (hd : decode code pc = .ok (.i2c, 1)) (hp : pc + 1 = pc')  (G : Go κ h ce sl pc' ls (.int (x.toUInt32.toUInt16.toUInt32.toInt32) :: rest)) : Go κ h ce sl pc ls (.int x :: rest) := by
  subst hp
  exact Go.pure D (fun p e below T t m c hx hby hT k' => XS.i2c hT hx rfl (hb hby hd) rfl k') G
theorem Go.lcmp (D : Amb κ l Z y code maxL ret rm h0 n0 Q) {x z : Int64} (hd : decode code pc = .ok (.lcmp, 1)) (hp : pc + 1 = pc')  (G : Go κ h ce sl pc' ls (.int (cmpL x z) :: rest)) : Go κ h ce sl pc ls (.long z :: .long x :: rest) := by
  subst hp
  exact Go.pure D (fun p e below T t m c hx hby hT k' => XS.lcmp hT hx rfl (hb hby hd) rfl k') G
theorem Go.dup (D : Amb κ l Z y code maxL ret rm h0 n0 Q) {x : Value} (hd : decode code pc = .ok (.dup, 1)) (hp : pc + 1 = pc') (hc : x.category = 1) (G : Go κ h ce sl pc' ls (x :: x :: rest)) : Go κ h ce sl pc ls (x :: rest) := by
  subst hp
  exact Go.pure D (fun p e below T t m c hx hby hT k' => XS.dup hT hx rfl (hb hby hd) rfl hc k') G
theorem Go.pop (D : Amb κ l Z y code maxL ret rm h0 n0 Q) {x : Value} (hd : decode code pc = .ok (.pop, 1)) (hp : pc + 1 = pc') (hc : x.category = 1) (G : Go κ h ce sl pc' ls (rest)) : Go κ h ce sl pc ls (x :: rest) := by
  subst hp
  exact Go.pure D (fun p e below T t m c hx hby hT k' => XS.pop hT hx rfl (hb hby hd) rfl hc k') G
theorem Go.dupX1 (D : Amb κ l Z y code maxL ret rm h0 n0 Q) {x z : Value} (hd : decode code pc = .ok (.dup_x1, 1)) (hp : pc + 1 = pc') (hc : x.category = 1) (hc' : z.category = 1) (G : Go κ h ce sl pc' ls (x :: z :: x :: rest)) : Go κ h ce sl pc ls (x :: z :: rest) := by
  subst hp
  exact Go.pure D (fun p e below T t m c hx hby hT k' => XS.dupX1 hT hx rfl (hb hby hd) rfl hc hc' k') G
theorem Go.dup2 (D : Amb κ l Z y code maxL ret rm h0 n0 Q) {x z : Value} (hd : decode code pc = .ok (.dup2, 1)) (hp : pc + 1 = pc') (hc : x.category = 1) (hc' : z.category = 1) (G : Go κ h ce sl pc' ls (x :: z :: x :: z :: rest)) : Go κ h ce sl pc ls (x :: z :: rest) := by
  subst hp
  exact Go.pure D (fun p e below T t m c hx hby hT k' => XT.dup2 hT hx rfl (hb hby hd) rfl hc hc' k') G
theorem Go.dup2L (D : Amb κ l Z y code maxL ret rm h0 n0 Q) {x : Int64} (hd : decode code pc = .ok (.dup2, 1)) (hp : pc + 1 = pc')  (G : Go κ h ce sl pc' ls (.long x :: .long x :: rest)) : Go κ h ce sl pc ls (.long x :: rest) := by
  subst hp
  exact Go.pure D (fun p e below T t m c hx hby hT k' => XT.dup2L hT hx rfl (hb hby hd) rfl k') G
theorem Go.istoreN (D : Amb κ l Z y code maxL ret rm h0 n0 Q) {k : Fin 4} {x : Int32} (hd : decode code pc = .ok (.istore_n k, 1)) (hp : pc + 1 = pc') (hl : storeLocals ls k.val (.int x) = some ls') (G : Go κ h ce sl pc' ls' rest) : Go κ h ce sl pc ls (.int x :: rest) := by
  subst hp
  exact Go.pure D (fun p e below T t m c hx hby hT k' => XS.istoreN hT hx rfl (hb hby hd) rfl hl k') G
theorem Go.istore (D : Amb κ l Z y code maxL ret rm h0 n0 Q) {k : Nat} {x : Int32} (hd : decode code pc = .ok (.istore k, 2)) (hp : pc + 2 = pc') (hl : storeLocals ls k (.int x) = some ls') (G : Go κ h ce sl pc' ls' rest) : Go κ h ce sl pc ls (.int x :: rest) := by
  subst hp
  exact Go.pure D (fun p e below T t m c hx hby hT k' => XS.istore hT hx rfl (hb hby hd) rfl hl k') G
theorem Go.astoreN (D : Amb κ l Z y code maxL ret rm h0 n0 Q) {k : Fin 4} {x : Value} (hd : decode code pc = .ok (.astore_n k, 1)) (hp : pc + 1 = pc') (hv : x.isRef = true) (hl : storeLocals ls k.val x = some ls') (G : Go κ h ce sl pc' ls' rest) : Go κ h ce sl pc ls (x :: rest) := by
  subst hp
  exact Go.pure D (fun p e below T t m c hx hby hT k' => XS.astoreN hT hx rfl (hb hby hd) rfl hv hl k') G
theorem Go.astore (D : Amb κ l Z y code maxL ret rm h0 n0 Q) {k : Nat} {x : Value} (hd : decode code pc = .ok (.astore k, 2)) (hp : pc + 2 = pc') (hv : x.isRef = true) (hl : storeLocals ls k x = some ls') (G : Go κ h ce sl pc' ls' rest) : Go κ h ce sl pc ls (x :: rest) := by
  subst hp
  exact Go.pure D (fun p e below T t m c hx hby hT k' => XS.astore hT hx rfl (hb hby hd) rfl hv hl k') G
theorem Go.lstoreN (D : Amb κ l Z y code maxL ret rm h0 n0 Q) {k : Fin 4} {x : Int64} (hd : decode code pc = .ok (.lstore_n k, 1)) (hp : pc + 1 = pc') (hl : storeLocals ls k.val (.long x) = some ls') (G : Go κ h ce sl pc' ls' rest) : Go κ h ce sl pc ls (.long x :: rest) := by
  subst hp
  exact Go.pure D (fun p e below T t m c hx hby hT k' => XS.lstoreN hT hx rfl (hb hby hd) rfl hl k') G
theorem Go.lstore (D : Amb κ l Z y code maxL ret rm h0 n0 Q) {k : Nat} {x : Int64} (hd : decode code pc = .ok (.lstore k, 2)) (hp : pc + 2 = pc') (hl : storeLocals ls k (.long x) = some ls') (G : Go κ h ce sl pc' ls' rest) : Go κ h ce sl pc ls (.long x :: rest) := by
  subst hp
  exact Go.pure D (fun p e below T t m c hx hby hT k' => XS.lstore hT hx rfl (hb hby hd) rfl hl k') G
theorem Go.iinc (D : Amb κ l Z y code maxL ret rm h0 n0 Q) {k : Nat} {cst : Int} {x d : Int32} (hd : decode code pc = .ok (.iinc k cst, 3)) (hp : pc + 3 = pc') (hl : ls[k]? = some (.val (.int x))) (hv : Int32.ofInt cst = d) (hl' : storeLocals ls k (.int (x + d)) = some ls') (G : Go κ h ce sl pc' ls' st) : Go κ h ce sl pc ls st := by
  subst hp hv
  exact Go.pure D (fun p e below T t m c hx hby hT k' => XS.iinc hT hx rfl (hb hby hd) hl hl' k') G
theorem Go.istoreU (D : Amb κ l Z y code maxL ret rm h0 n0 Q) {k : Nat} {x : Int32} {o : Slot} (hd : decode code pc = .ok (.istore k, 2)) (hp : pc + 2 = pc') (hold : ls[k]? = some o) (ho : o = .unset ∨ ∃ w, o = .val w ∧ w.category = 1) (hl : ls.setIfInBounds k (.val (.int x)) = ls') (G : Go κ h ce sl pc' ls' rest) : Go κ h ce sl pc ls (.int x :: rest) := by
  subst hp hl
  exact Go.pure D (fun p e below T t m c hx hby hT k' => XS.istoreS hT hx rfl (hb hby hd) rfl hold ho k') G
theorem Go.istoreNU (D : Amb κ l Z y code maxL ret rm h0 n0 Q) {k : Fin 4} {x : Int32} {o : Slot} (hd : decode code pc = .ok (.istore_n k, 1)) (hp : pc + 1 = pc') (hold : ls[k.val]? = some o) (ho : o = .unset ∨ ∃ w, o = .val w ∧ w.category = 1) (hl : ls.setIfInBounds k.val (.val (.int x)) = ls') (G : Go κ h ce sl pc' ls' rest) : Go κ h ce sl pc ls (.int x :: rest) := by
  subst hp hl
  exact Go.pure D (fun p e below T t m c hx hby hT k' => XS.istoreNS hT hx rfl (hb hby hd) rfl hold ho k') G
theorem Go.astoreU (D : Amb κ l Z y code maxL ret rm h0 n0 Q) {k : Nat} {x : Value} {o : Slot} (hd : decode code pc = .ok (.astore k, 2)) (hp : pc + 2 = pc') (hv : x.isRef = true) (hc : x.category = 1) (hold : ls[k]? = some o) (ho : o = .unset ∨ ∃ w, o = .val w ∧ w.category = 1) (hl : ls.setIfInBounds k (.val x) = ls') (G : Go κ h ce sl pc' ls' rest) : Go κ h ce sl pc ls (x :: rest) := by
  subst hp hl
  exact Go.pure D (fun p e below T t m c hx hby hT k' => XS.astoreS hT hx rfl (hb hby hd) rfl hv hc hold ho k') G
theorem Go.goto (D : Amb κ l Z y code maxL ret rm h0 n0 Q) {o : Int} (hd : decode code pc = .ok (.goto o, 3)) (ho : 0 ≤ (pc : Int) + o) (hp : ((pc : Int) + o).toNat = pc') (G : Go κ h ce sl pc' ls st) : Go κ h ce sl pc ls st :=
  Go.pure D (fun p e below T t m c hx hby hT k' => XS.goto hT hx rfl rfl (hb hby hd) ho hp k') G
theorem Go.ifnullY (D : Amb κ l Z y code maxL ret rm h0 n0 Q) {o : Int} (hd : decode code pc = .ok (.ifnull o, 3)) (ho : 0 ≤ (pc : Int) + o) (hp : ((pc : Int) + o).toNat = pc') (G : Go κ h ce sl pc' ls rest) : Go κ h ce sl pc ls (.null :: rest) :=
  Go.pure D (fun p e below T t m c hx hby hT k' => XS.ifnullYes hT hx rfl rfl (hb hby hd) rfl ho hp k') G
theorem Go.ifnullN (D : Amb κ l Z y code maxL ret rm h0 n0 Q) {o : Int} {b : Addr} (hd : decode code pc = .ok (.ifnull o, 3)) (hp : pc + 3 = pc') (G : Go κ h ce sl pc' ls rest) : Go κ h ce sl pc ls (.ref b :: rest) := by
  subst hp
  exact Go.pure D (fun p e below T t m c hx hby hT k' => XS.ifnullNo hT hx rfl (hb hby hd) rfl k') G
theorem Go.ifnonnullY (D : Amb κ l Z y code maxL ret rm h0 n0 Q) {o : Int} {b : Addr} (hd : decode code pc = .ok (.ifnonnull o, 3)) (ho : 0 ≤ (pc : Int) + o) (hp : ((pc : Int) + o).toNat = pc') (G : Go κ h ce sl pc' ls rest) : Go κ h ce sl pc ls (.ref b :: rest) :=
  Go.pure D (fun p e below T t m c hx hby hT k' => XS.ifnonnullYes hT hx rfl rfl (hb hby hd) rfl ho hp k') G
theorem Go.ifnonnullN (D : Amb κ l Z y code maxL ret rm h0 n0 Q) {o : Int} (hd : decode code pc = .ok (.ifnonnull o, 3)) (hp : pc + 3 = pc') (G : Go κ h ce sl pc' ls rest) : Go κ h ce sl pc ls (.null :: rest) := by
  subst hp
  exact Go.pure D (fun p e below T t m c hx hby hT k' => XS.ifnonnullNo hT hx rfl (hb hby hd) rfl k') G
theorem Go.irem (D : Amb κ l Z y code maxL ret rm h0 n0 Q) {x z : Int32} (hd : decode code pc = .ok (.irem, 1)) (hp : pc + 1 = pc') (hz : z ≠ 0) (G : Go κ h ce sl pc' ls (.int (x % z) :: rest)) : Go κ h ce sl pc ls (.int z :: .int x :: rest) := by
  subst hp
  exact Go.calm D (fun p e s m args below meth c T locs hx hZ hown hby hml hh X eT => ⟨T, X, eT, fun t k => iremM X hx rfl (hb hby hd) rfl hz k⟩) G
theorem Go.ldcInt (D : Amb κ l Z y code maxL ret rm h0 n0 Q) {idx : Nat} {v : Int32} (w : (Jvm.Cond.constant y.cls idx v).before a0 Z = true) (hd : decode code pc = .ok (.ldc idx, 2)) (hp : pc + 2 = pc') (G : Go κ h ce sl pc' ls (.int v :: st)) : Go κ h ce sl pc ls st := by
  subst hp
  exact Go.calm D (fun p e s m args below meth c T locs hx hZ hown hby hml hh X eT => ⟨T, X, eT, X.ldcInt hx hown (mvT hZ w) (g := mkF m pc ls st) rfl (hb hby hd)⟩) G
theorem Go.ldc2Long (D : Amb κ l Z y code maxL ret rm h0 n0 Q) {idx : Nat} {v : Int64} (w : (Jvm.Cond.constantLong y.cls idx v).before a0 Z = true) (hd : decode code pc = .ok (.ldc2_w idx, 3)) (hp : pc + 3 = pc') (G : Go κ h ce sl pc' ls (.long v :: st)) : Go κ h ce sl pc ls st := by
  subst hp
  exact Go.calm D (fun p e s m args below meth c T locs hx hZ hown hby hml hh X eT => ⟨T, X, eT, X.ldc2Long hx hown (mvT hZ w) (g := mkF m pc ls st) rfl (hb hby hd)⟩) G
/-! fields -/
theorem Go.getF (D : Amb κ l Z y code maxL ret rm h0 n0 Q) {idx : Nat} {n d : String} {a : Addr} {v : Value} {O : String} (w : (Jvm.Cond.fieldLink y.cls idx O n d).before a0 Z = true) (hd : decode code pc = .ok (.getfield idx, 3)) (hp : pc + 3 = pc') (F : Fld Z h a O n d v) (G : Go κ h ce sl pc' ls (v :: rest)) : Go κ h ce sl pc ls (.ref a :: rest) := by
  subst hp
  exact Go.calm D (fun p e s m args below meth c T locs hx hZ hown hby hml hh X eT => Jvm.RoadKit.getF X hx hZ hown (host := "") (Or.inl w) Via.refl eT F (g := mkF m pc ls (.ref a :: rest)) rfl rfl (hb hby hd)) G
theorem Go.getFN (D : Amb κ l Z y code maxL ret rm h0 n0 Q) {idx : Nat} {n d host : String} {a : Addr} {v : Value} {O : String} (w : (Jvm.Cond.fieldLinkNest y.cls idx O n d host).before a0 Z = true) (hd : decode code pc = .ok (.getfield idx, 3)) (hp : pc + 3 = pc') (F : Fld Z h a O n d v) (G : Go κ h ce sl pc' ls (v :: rest)) : Go κ h ce sl pc ls (.ref a :: rest) := by
  subst hp
  exact Go.calm D (fun p e s m args below meth c T locs hx hZ hown hby hml hh X eT => Jvm.RoadKit.getF X hx hZ hown (host := host) (Or.inr w) Via.refl eT F (g := mkF m pc ls (.ref a :: rest)) rfl rfl (hb hby hd)) G
theorem Go.putF (D : Amb κ l Z y code maxL ret rm h0 n0 Q) {idx kk : Nat} {n d C O : String} {ty : FieldType} {a : Addr} {v old : Value} (w : (Jvm.Cond.fieldLink y.cls idx O n d).before a0 Z = true) (hd : decode code pc = .ok (.putfield idx, 3)) (hp : pc + 3 = pc') (F : Fld Z h a O n d old) (E : Exa Z h a C)
    (L : (Jvm.Cond.lays C O n d).before a0 Z = true ∨ ((Jvm.Cond.laysFinal C O n d).before a0 Z = true ∧ y.cls = O ∧ y.name = "<init>")) (wi : (Jvm.Cond.instantiable C kk).before a0 Z = true) (hty : parseFieldDescriptor d = some ty) (hn : narrow ty v = v) (hf : fits ty v = true) (ge : n0 ≤ a)
    (G : ∀ h', Wr h h' a (Jvm.RoadKit.slotOf Z O n d) v → Go κ h' ce sl pc' ls rest) : Go κ h ce sl pc ls (v :: .ref a :: rest) := by
  subst hp
  refine Go.turn D (fun p e s m args below meth c T locs hx hZ hown hby hml hnm X eT N => ?_) G
  obtain ⟨T', h1, X', e', W, k⟩ := Jvm.RoadKit.putF X hx hZ hown (host := "") (Or.inl w) Via.refl eT F E (L.imp id fun q => ⟨q.1, q.2.1, hnm.trans q.2.2⟩) wi hty hn hf (g := mkF m pc ls (v :: .ref a :: rest)) rfl rfl (hb hby hd)
  exact ⟨T', _, h1, X', e', Fr.snoc X' N ge, Gw.one (Keep.of_wr W) ge, W, k⟩
/-! new -/
theorem Go.newO (D : Amb κ l Z y code maxL ret rm h0 n0 Q) {idx n : Nat} {C : String} (w : (Jvm.Cond.classLink y.cls idx C).before a0 Z = true) (wi : (Jvm.Cond.instantiable C n).before a0 Z = true) (wz : (Jvm.Cond.initialized C).before a0 Z = true) (hd : decode code pc = .ok (.new idx, 3)) (hp : pc + 3 = pc') (hce : ce + 1 = ce') (hsl : sl + n = sl') (hc : ce' ≤ rm.cells) (hs : sl' ≤ rm.slots)
    (G : ∀ h' a, a = h.size → Ext h h' → Exa Z h' a C → (∀ {O nm d : String} {ty : FieldType}, Laid Z a0 C O nm d → parseFieldDescriptor d = some ty → Fld Z h' a O nm d (defaultValue ty)) → Go κ h' ce' sl' pc' ls (.ref a :: st)) : Go κ h ce sl pc ls st := by
  subst hp hce hsl
  refine Go.turn D (P := fun h' => Ext h h' ∧ Exa Z h' h.size C ∧ (∀ {O nm d : String} {ty : FieldType}, Laid Z a0 C O nm d → parseFieldDescriptor d = some ty → Fld Z h' h.size O nm d (defaultValue ty))) (fun p e s m args below meth c T locs hx hZ hown hby hml hnm X eT N => ?_) (fun h' q => G h' _ rfl q.1 q.2.1 q.2.2)
  obtain ⟨T', h1, X', e', E, A, F, -, k⟩ := Jvm.RoadKit.newO X hx hZ hown w wi wz eT (g := mkF m pc ls st) rfl (hb hby hd) hc hs
  exact ⟨T', _, h1, X', e', N, Gw.ext E, ⟨E, A, F⟩, k⟩
theorem Go.newP (D : Amb κ l Z y code maxL ret rm h0 n0 Q) {aty : ArrayType} {n : Int32} {cap : Nat} (w : (Jvm.Cond.arrayClass (newarray.typeOf aty)).before a0 Z = true) (hd : decode code pc = .ok (.newarray aty, 2)) (hp : pc + 2 = pc') (hn : ¬ n < 0) (hcap : n.toNatClampNeg ≤ cap) (hb' : cap * 8 ≤ 536870912) (hce : ce + 1 = ce') (hsl : sl + cap = sl') (hc : ce' ≤ rm.cells) (hs : sl' ≤ rm.slots)
    (G : ∀ h' a k, a = h.size → Ext h h' → Arv Z h' a k (newarray.typeOf aty) n [] (defaultValue (newarray.typeOf aty)) → Go κ h' ce' sl' pc' ls (.ref a :: rest)) : Go κ h ce sl pc ls (.int n :: rest) := by
  subst hp hce hsl
  refine Go.turn D (P := fun h' => ∃ k, Ext h h' ∧ Arv Z h' h.size k (newarray.typeOf aty) n [] (defaultValue (newarray.typeOf aty))) (fun p e s m args below meth c T locs hx hZ hown hby hml hnm X eT N => ?_) (fun h' q => by obtain ⟨k, q1, q2⟩ := q; exact G h' _ k rfl q1 q2)
  obtain ⟨T', h1, k, X', e', E, A, st'⟩ := Jvm.RoadKit.newP X hx hZ w eT (g := mkF m pc ls (.int n :: rest)) rfl (hb hby hd) rfl hn hcap hb' hc hs
  exact ⟨T', _, h1, X', e', N, Gw.ext E, ⟨k, E, Arv.new A hn⟩, st'⟩
theorem Go.initO (D : Amb κ l Z y code maxL ret rm h0 n0 Q) {idx : Nat} {a : Addr} (w1 : (Jvm.Cond.methodLink y.cls idx Lib.objectInit).before a0 Z = true) (w2 : (Jvm.Cond.instanceMethod Lib.objectInit).before a0 Z = true) (w3 : (Jvm.Cond.code Lib.objectInit ⟨#[0xb1]⟩ 1 none).before a0 Z = true) (hd : decode code pc = .ok (.invokespecial idx, 3)) (hp : pc + 3 = pc') (hls : ls.size = maxL) (hf : 1 ≤ rm.frames) {W : Nat} (hW : (rest.map fun v => v.category).sum = W) (hl : W + 12 ≤ rm.locals)
    (G : Go κ h ce sl pc' ls rest) : Go κ h ce sl pc ls (.ref a :: rest) := by
  subst hp
  exact Go.calm D (fun p e s m args below meth c T locs hx hZ hown hby hml hh X eT => Jvm.RoadKit.initO X hx hZ hown w1 w2 w3 eT (g := mkF m pc ls (.ref a :: rest)) rfl (hls.trans hml.symm) rfl (hb hby hd) hf (W := W) (by show 2 * 0 + _ ≤ _; rw [hW]; omega) hl) G
/-! arrays -/
section Arrays
variable {a : Addr} {k : ClassId} {n j : Int32} {vs : List Value} {dv v : Value}
theorem Go.alen (D : Amb κ l Z y code maxL ret rm h0 n0 Q) {ty : FieldType} (hd : decode code pc = .ok (.arraylength, 1)) (hp : pc + 1 = pc') (A : Arv Z h a k ty n vs dv) (G : Go κ h ce sl pc' ls (.int n :: rest)) : Go κ h ce sl pc ls (.ref a :: rest) := by
  subst hp
  obtain ⟨c', A1, A2, A3, A4, A5, A6⟩ := A
  refine Go.calm D (fun p e s m args below meth c T locs hx hZ hown hby hml hh X eT => ⟨T, X, eT, fun t q => ?_⟩) G
  refine X.arraylength hx (by rw [eT]; exact A1.1) (State.isArrayOf_alike hZ.alike A1.2.1) (g := mkF m pc ls (.ref a :: rest)) rfl rfl (hb hby hd) t ?_
  rw [len_of A3 A4]; exact q
theorem Go.iaload (D : Amb κ l Z y code maxL ret rm h0 n0 Q) (hd : decode code pc = .ok (.iaload, 1)) (hp : pc + 1 = pc') (A : Arv Z h a k .int n vs dv) (h1 : ¬ j < 0) (h2 : j < n) (hv : vs.getD j.toNatClampNeg dv = v) (G : Go κ h ce sl pc' ls (v :: rest)) : Go κ h ce sl pc ls (.int j :: .ref a :: rest) := by
  subst hp
  obtain ⟨c', A1, A2, A3, A4, A5, A6, A7⟩ := A.inb h1 h2
  exact Go.calm D (fun p e s m args below meth c T locs hx hZ hown hby hml hh X eT => ⟨T, X, eT, fun t q => X.iaload hx (by rw [eT]; exact A1.1) (State.isArrayOf_alike hZ.alike A1.2.1) A1.2.2 A7 (A5.at A7 hv) (g := mkF m pc ls (.int j :: .ref a :: rest)) rfl rfl (hb hby hd) t q⟩) G
theorem Go.caload (D : Amb κ l Z y code maxL ret rm h0 n0 Q) (hd : decode code pc = .ok (.caload, 1)) (hp : pc + 1 = pc') (A : Arv Z h a k .char n vs dv) (h1 : ¬ j < 0) (h2 : j < n) (hv : vs.getD j.toNatClampNeg dv = v) (G : Go κ h ce sl pc' ls (v :: rest)) : Go κ h ce sl pc ls (.int j :: .ref a :: rest) := by
  subst hp
  obtain ⟨c', A1, A2, A3, A4, A5, A6, A7⟩ := A.inb h1 h2
  exact Go.calm D (fun p e s m args below meth c T locs hx hZ hown hby hml hh X eT => ⟨T, X, eT, fun t q => X.caload hx (by rw [eT]; exact A1.1) (State.isArrayOf_alike hZ.alike A1.2.1) A1.2.2 A7 (A5.at A7 hv) (g := mkF m pc ls (.int j :: .ref a :: rest)) rfl rfl (hb hby hd) t q⟩) G
theorem Go.baload (D : Amb κ l Z y code maxL ret rm h0 n0 Q) (hd : decode code pc = .ok (.baload, 1)) (hp : pc + 1 = pc') (A : Arv Z h a k .byte n vs dv) (h1 : ¬ j < 0) (h2 : j < n) (hv : vs.getD j.toNatClampNeg dv = v) (G : Go κ h ce sl pc' ls (v :: rest)) : Go κ h ce sl pc ls (.int j :: .ref a :: rest) := by
  subst hp
  obtain ⟨c', A1, A2, A3, A4, A5, A6, A7⟩ := A.inb h1 h2
  exact Go.calm D (fun p e s m args below meth c T locs hx hZ hown hby hml hh X eT => ⟨T, X, eT, fun t q => X.baloadBytes hx (by rw [eT]; exact A1.1) (State.isArrayOf_alike hZ.alike A1.2.1) A1.2.2 A7 (A5.at A7 hv) (g := mkF m pc ls (.int j :: .ref a :: rest)) rfl rfl (hb hby hd) t q⟩) G
theorem Go.iastore (D : Amb κ l Z y code maxL ret rm h0 n0 Q) {x : Int32} {i : Nat} (hd : decode code pc = .ok (.iastore, 1)) (hp : pc + 1 = pc') (A : Arv Z h a k .int n vs dv) (h1 : ¬ j < 0) (h2 : j < n) (hj : j.toNatClampNeg = i) (hi : i < vs.length) (ge : n0 ≤ a)
    (G : ∀ h', Keep h h' [a] → Arv Z h' a k .int n (vs.set i (.int x)) dv → Go κ h' ce sl pc' ls rest) : Go κ h ce sl pc ls (.int x :: .int j :: .ref a :: rest) := by
  subst hp
  obtain ⟨c', A1, A2, A3, A4, A5, A6, A7⟩ := A.inb h1 h2
  refine Go.turn D (P := fun h' => Keep h h' [a] ∧ Arv Z h' a k .int n (vs.set i (.int x)) dv) (fun p e s m args below meth c T locs hx hZ hown hby hml hnm X eT N => ?_) (fun h' q => G h' q.1 q.2)
  obtain ⟨T', h1, X', e', W, q⟩ := stI X hx hZ eT A1 A7 (g := mkF m pc ls (.int x :: .int j :: .ref a :: rest)) rfl rfl (hb hby hd)
  exact ⟨T', _, h1, X', e', Fr.snoc X' N ge, Gw.one (Keep.of_wr W) ge, ⟨Keep.of_wr W, Arv.set A1 A2 A3 A4 A5 A6 rfl W i hj hi⟩, q⟩
theorem Go.castore (D : Amb κ l Z y code maxL ret rm h0 n0 Q) {x x' : Int32} {i : Nat} (hd : decode code pc = .ok (.castore, 1)) (hp : pc + 1 = pc') (A : Arv Z h a k .char n vs dv) (h1 : ¬ j < 0) (h2 : j < n) (hj : j.toNatClampNeg = i) (hi : i < vs.length) (ge : n0 ≤ a) (hx' : nar .char x = x')
    (G : ∀ h', Keep h h' [a] → Arv Z h' a k .char n (vs.set i (.int x')) dv → Go κ h' ce sl pc' ls rest) : Go κ h ce sl pc ls (.int x :: .int j :: .ref a :: rest) := by
  subst hp hx'
  obtain ⟨c', A1, A2, A3, A4, A5, A6, A7⟩ := A.inb h1 h2
  refine Go.turn D (P := fun h' => Keep h h' [a] ∧ Arv Z h' a k .char n (vs.set i (.int (nar .char x))) dv) (fun p e s m args below meth c T locs hx hZ hown hby hml hnm X eT N => ?_) (fun h' q => G h' q.1 q.2)
  obtain ⟨T', h1, X', e', W, q⟩ := stC X hx hZ eT A1 A7 (g := mkF m pc ls (.int x :: .int j :: .ref a :: rest)) rfl rfl (hb hby hd)
  exact ⟨T', _, h1, X', e', Fr.snoc X' N ge, Gw.one (Keep.of_wr W) ge, ⟨Keep.of_wr W, Arv.set A1 A2 A3 A4 A5 A6 (fits_nar_char x) W i hj hi⟩, q⟩
theorem Go.bastore (D : Amb κ l Z y code maxL ret rm h0 n0 Q) {x x' : Int32} {i : Nat} (hd : decode code pc = .ok (.bastore, 1)) (hp : pc + 1 = pc') (A : Arv Z h a k .byte n vs dv) (h1 : ¬ j < 0) (h2 : j < n) (hj : j.toNatClampNeg = i) (hi : i < vs.length) (ge : n0 ≤ a) (hx' : nar .byte x = x')
    (G : ∀ h', Keep h h' [a] → Arv Z h' a k .byte n (vs.set i (.int x')) dv → Go κ h' ce sl pc' ls rest) : Go κ h ce sl pc ls (.int x :: .int j :: .ref a :: rest) := by
  subst hp hx'
  obtain ⟨c', A1, A2, A3, A4, A5, A6, A7⟩ := A.inb h1 h2
  refine Go.turn D (P := fun h' => Keep h h' [a] ∧ Arv Z h' a k .byte n (vs.set i (.int (nar .byte x))) dv) (fun p e s m args below meth c T locs hx hZ hown hby hml hnm X eT N => ?_) (fun h' q => G h' q.1 q.2)
  obtain ⟨T', h1, X', e', W, q⟩ := stB X hx hZ eT A1 A7 (g := mkF m pc ls (.int x :: .int j :: .ref a :: rest)) rfl rfl (hb hby hd)
  exact ⟨T', _, h1, X', e', Fr.snoc X' N ge, Gw.one (Keep.of_wr W) ge, ⟨Keep.of_wr W, Arv.set A1 A2 A3 A4 A5 A6 (fits_nar_byte x) W i hj hi⟩, q⟩
end Arrays
/-! classes of objects -/
theorem Go.castY (D : Amb κ l Z y code maxL ret rm h0 n0 Q) {idx : Nat} {K : String} {a : Addr} (w : (Jvm.Cond.classLink y.cls idx K).before a0 Z = true) (hd : decode code pc = .ok (.checkcast idx, 3)) (hp : pc + 3 = pc') (F : Ins Z h a K true) (G : Go κ h ce sl pc' ls (.ref a :: rest)) : Go κ h ce sl pc ls (.ref a :: rest) := by
  subst hp
  exact Go.calm D (fun p e s m args below meth c T locs hx hZ hown hby hml hh X eT => Jvm.RoadKit.castY X hx hZ hown w eT F (g := mkF m pc ls (.ref a :: rest)) rfl rfl (hb hby hd)) G
theorem Go.instY (D : Amb κ l Z y code maxL ret rm h0 n0 Q) {idx : Nat} {K : String} {a : Addr} (w : (Jvm.Cond.classLink y.cls idx K).before a0 Z = true) (hd : decode code pc = .ok (.instanceof idx, 3)) (hp : pc + 3 = pc') (F : Ins Z h a K true) (G : Go κ h ce sl pc' ls (.int 1 :: rest)) : Go κ h ce sl pc ls (.ref a :: rest) := by
  subst hp
  exact Go.calm D (fun p e s m args below meth c T locs hx hZ hown hby hml hh X eT => Jvm.RoadKit.instY X hx hZ hown w eT F (g := mkF m pc ls (.ref a :: rest)) rfl rfl (hb hby hd)) G
theorem Go.instN (D : Amb κ l Z y code maxL ret rm h0 n0 Q) {idx : Nat} {K C : String} {a : Addr} (w : (Jvm.Cond.classLink y.cls idx K).before a0 Z = true) (hd : decode code pc = .ok (.instanceof idx, 3)) (hp : pc + 3 = pc') (F : ∃ c t, Z.vm.findClass C = some c ∧ Z.vm.findClass K = some t ∧ Z.vm.assignable c t = false) (E : Exa Z h a C) (G : Go κ h ce sl pc' ls (.int 0 :: rest)) : Go κ h ce sl pc ls (.ref a :: rest) := by
  subst hp
  exact Go.calm D (fun p e s m args below meth c T locs hx hZ hown hby hml hh X eT => instNo X hx hZ hown w eT E F (g := mkF m pc ls (.ref a :: rest)) rfl rfl (hb hby hd)) G
theorem Go.instNull (D : Amb κ l Z y code maxL ret rm h0 n0 Q) {idx : Nat} (hd : decode code pc = .ok (.instanceof idx, 3)) (hp : pc + 3 = pc') (G : Go κ h ce sl pc' ls (.int 0 :: rest)) : Go κ h ce sl pc ls (.null :: rest) := by
  subst hp
  exact Go.calm D (fun p e s m args below meth c T locs hx hZ hown hby hml hh X eT => ⟨T, X, eT, X.instanceofNull hx (g := mkF m pc ls (.null :: rest)) rfl rfl (hb hby hd)⟩) G
theorem Go.acmpNe (D : Amb κ l Z y code maxL ret rm h0 n0 Q) {o : Int} {x z : Value} (h1 : x.isRef = true) (h2 : z.isRef = true) (hd : decode code pc = .ok (.if_acmp .ne o, 3)) (ho : 0 ≤ (pc : Int) + o) (hp : ((pc : Int) + o).toNat = pc') (hp2 : pc + 3 = pc2)
    (Gt : ¬ x = z → Go κ h ce sl pc' ls rest) (Gf : x = z → Go κ h ce sl pc2 ls rest) : Go κ h ce sl pc ls (z :: x :: rest) := by
  subst hp hp2
  by_cases q : x = z
  · exact Go.calm D (fun p e s m args below meth c T locs hx hZ hown hby hml hh X eT => ⟨T, X, eT, fun t k => acmp (g := mkF m pc ls (z :: x :: rest)) X hx rfl h1 h2 (same := true) rfl (hb hby hd) rfl (by simp [q]) ho (by simp [acV]) k⟩) (Gf q)
  · exact Go.calm D (fun p e s m args below meth c T locs hx hZ hown hby hml hh X eT => ⟨T, X, eT, fun t k => acmp (g := mkF m pc ls (z :: x :: rest)) X hx rfl h1 h2 (same := false) rfl (hb hby hd) rfl (by simp [q]) ho (by simp [acV]) k⟩) (Gt q)
theorem Go.acmpEq (D : Amb κ l Z y code maxL ret rm h0 n0 Q) {o : Int} {x z : Value} (h1 : x.isRef = true) (h2 : z.isRef = true) (hd : decode code pc = .ok (.if_acmp .eq o, 3)) (ho : 0 ≤ (pc : Int) + o) (hp : ((pc : Int) + o).toNat = pc') (hp2 : pc + 3 = pc2)
    (Gt : x = z → Go κ h ce sl pc' ls rest) (Gf : ¬ x = z → Go κ h ce sl pc2 ls rest) : Go κ h ce sl pc ls (z :: x :: rest) := by
  subst hp hp2
  by_cases q : x = z
  · exact Go.calm D (fun p e s m args below meth c T locs hx hZ hown hby hml hh X eT => ⟨T, X, eT, fun t k => acmp (g := mkF m pc ls (z :: x :: rest)) X hx rfl h1 h2 (same := true) rfl (hb hby hd) rfl (by simp [q]) ho (by simp [acV]) k⟩) (Gt q)
  · exact Go.calm D (fun p e s m args below meth c T locs hx hZ hown hby hml hh X eT => ⟨T, X, eT, fun t k => acmp (g := mkF m pc ls (z :: x :: rest)) X hx rfl h1 h2 (same := false) rfl (hb hby hd) rfl (by simp [q]) ho (by simp [acV]) k⟩) (Gf q)
/-! System.arraycopy -/
theorem Go.acopy (D : Amb κ l Z y code maxL ret rm h0 n0 Q) {idx sN dN nN : Nat} {a b : Addr} {k k' : ClassId} {ty : FieldType} {z z' sp dp nn : Int32} {vs vd : List Value} {dv dd : Value} (w1 : (Jvm.Cond.methodLink y.cls idx Jvm.Stand.acN).before a0 Z = true) (w2 : (Jvm.Cond.native Jvm.Stand.acN).before a0 Z = true) (w3 : (Jvm.Cond.static Jvm.Stand.acN).before a0 Z = true) (w4 : (Jvm.Cond.initialized "java/lang/System").before a0 Z = true)
    (hd : decode code pc = .ok (.invokestatic idx, 3)) (hp : pc + 3 = pc') (A : Arv Z h a k ty z vs dv) (B : Arv Z h b k' ty z' vd dd) (hty : refKind ty = false) (h1 : ¬ sp < 0) (h2 : ¬ dp < 0) (h3 : ¬ nn < 0) (e1 : sp.toNatClampNeg = sN) (e2 : dp.toNatClampNeg = dN) (e3 : nn.toNatClampNeg = nN) (h4 : sN + nN ≤ z.toNatClampNeg) (h5 : dN + nN ≤ z'.toNatClampNeg)
    (hl : dN + nN ≤ vd.length) (ge : n0 ≤ b) (hls : ls.size = maxL) (hf : 1 ≤ rm.frames) {W : Nat} (hW : (rest.map fun v => v.category).sum = W) (hlo : W + (nativeFrameWords "java/lang/System" "arraycopy" 5 + 11) ≤ rm.locals)
    (G : ∀ h', Keep h h' [b] → Arv Z h' b k' ty z' (vd.take dN ++ ((List.range nN).map fun i => vs.getD (sN + i) dv) ++ vd.drop (dN + nN)) dd → Go κ h' ce sl pc' ls rest) : Go κ h ce sl pc ls (.int nn :: .int dp :: .ref b :: .int sp :: .ref a :: rest) := by
  subst hp e1 e2 e3
  refine Go.turn D (P := fun h' => Keep h h' [b] ∧ Arv Z h' b k' ty z' (vd.take dp.toNatClampNeg ++ ((List.range nn.toNatClampNeg).map fun i => vs.getD (sp.toNatClampNeg + i) dv) ++ vd.drop (dp.toNatClampNeg + nn.toNatClampNeg)) dd) (fun p e s m args below meth c T locs hx hZ hown hby hml hnm X eT N => ?_) (fun h' q => G h' q.1 q.2)
  obtain ⟨T', h1, L, X', e', N', K, A', q⟩ := cpA X hx hZ hown w1 w2 w3 w4 eT A B (Or.inl ⟨rfl, hty⟩) h1 h2 h3 h4 h5 rfl hl N ge (g := mkF m pc ls (.int nn :: .int dp :: .ref b :: .int sp :: .ref a :: rest)) rfl (hls.trans hml.symm) rfl (hb hby hd) hf (W := W) (by show 2 * 0 + _ ≤ _; rw [hW]; omega) hlo
  exact ⟨T', L, h1, X', e', N', Gw.one K ge, ⟨K, A'⟩, q⟩
theorem nin1 {x y : Addr} (q : x ≠ y) : x ∉ [y] := fun z => q (List.mem_singleton.mp z)
/-! calls -/
section Calls
variable {z : MethodName} {bytes : ByteArray} {maxLz : Nat} {retz : Option FieldType} {rmz : Room} {argsL : List Value} {Qz : Option Value → Heap → Prop} {idx : Nat} {ps : List FieldType} {rt : Option FieldType}
theorem Go.callS (D : Amb κ l Z y code maxL ret rm h0 n0 Q) (M : Con l Z z bytes maxLz retz rmz [] argsL.toArray h n0 Qz) (w1 : (Jvm.Cond.methodLink y.cls idx z).before a0 Z = true) (w2 : (Jvm.Cond.static z).before a0 Z = true) (w3 : (Jvm.Cond.initialized z.cls).before a0 Z = true) (w4 : (Jvm.Cond.code z bytes maxLz retz).before a0 Z = true)
    (hz : z.cls ≠ "java/lang/invoke/MethodHandle" ∧ z.cls ≠ "java/lang/invoke/VarHandle") (hd : decode code pc = .ok (.invokestatic idx, 3)) (hp : pc + 3 = pc') (hpd : parseMethodDescriptor z.desc = some ⟨ps, rt⟩) (hlen : argsL.length = ps.length) (hst : st = argsL.reverse ++ rest) (hls : ls.size = maxL)
    (hf : rmz.frames + 1 ≤ rm.frames) {W : Nat} (hW : (rest.map fun v => v.category).sum = W) (hlo : W + (maxLz + 11) + rmz.locals ≤ rm.locals) (hce : ce + rmz.cells ≤ ce') (hsl : sl + rmz.slots ≤ sl') (hc : ce' ≤ rm.cells) (hs : sl' ≤ rm.slots)
    (G : ∀ v h', Qz v h' → Go κ h' ce' sl' pc' ls (v.toList ++ rest)) : Go κ h ce sl pc ls st := by
  subst hp
  obtain ⟨p, l', e, R, s, m, args, below, meth, c, n0', Q'⟩ := κ
  obtain ⟨rfl, rfl, rfl, hQ, hx, hZ, hown, hby, hml, hret, hlk, hnm, hh⟩ := D
  intro T locs X eT N
  obtain ⟨v, _, ⟨T1, L1, k1, n1⟩, -, X1, ⟨Lc, hQ1, l1, y1, z1⟩, st1⟩ := Jvm.LawKit.callS X hx (y := z) hown (mvT hZ w1) (mvT hZ w2) (mvT hZ w3) (mvT hZ w4) hz (backOf (W := W) (Q := fun v h L => Fr _ L ∧ Qz v h) M hZ w4 w3 hf hlo) (g := mkF m pc ls st) rfl (hls.trans hml.symm) (argsL := argsL) (rest := rest) (lenOf hpd hlen) hst (by show 2 * 0 + _ ≤ _; rw [hW]; omega) (hb hby hd) (fun _ _ => ⟨rfl, eT, Nat.le_trans hce hc, Nat.le_trans hsl hs⟩)
  dsimp only [Pt.U, Pt.locs, Pt.cells, Pt.slots] at X1 l1 y1 z1 st1 hQ1
  subst l1 y1 z1
  obtain ⟨s₂, o, g1, g2⟩ := G v T1.heap hQ1.2 T1 _ (sd_mono X1 hce hsl) rfl (Fr.app N hQ1.1)
  exact ⟨s₂, o, st1 _ g1, g2⟩
theorem Go.callI (D : Amb κ l Z y code maxL ret rm h0 n0 Q) {a : Addr} (M : Con l Z z bytes maxLz none rmz [] (.ref a :: argsL).toArray h n0 Qz) (hz1 : z.name = "<init>") (w1 : (Jvm.Cond.methodLink y.cls idx z).before a0 Z = true) (w2 : (Jvm.Cond.instanceMethod z).before a0 Z = true) (w3 : (Jvm.Cond.initialized z.cls).before a0 Z = true) (w4 : (Jvm.Cond.code z bytes maxLz none).before a0 Z = true)
    (hz : z.cls ≠ "java/lang/invoke/MethodHandle" ∧ z.cls ≠ "java/lang/invoke/VarHandle") (hd : decode code pc = .ok (.invokespecial idx, 3)) (hp : pc + 3 = pc') (hpd : parseMethodDescriptor z.desc = some ⟨ps, rt⟩) (hlen : argsL.length = ps.length) (hst : st = argsL.reverse ++ .ref a :: rest) (hls : ls.size = maxL)
    (hf : rmz.frames + 1 ≤ rm.frames) {W : Nat} (hW : (rest.map fun v => v.category).sum = W) (hlo : W + (maxLz + 11) + rmz.locals ≤ rm.locals) (hce : ce + rmz.cells ≤ ce') (hsl : sl + rmz.slots ≤ sl') (hc : ce' ≤ rm.cells) (hs : sl' ≤ rm.slots)
    (G : ∀ v h', Qz v h' → Go κ h' ce' sl' pc' ls (v.toList ++ rest)) : Go κ h ce sl pc ls st := by
  subst hp
  obtain ⟨p, l', e, R, s, m, args, below, meth, c, n0', Q'⟩ := κ
  obtain ⟨rfl, rfl, rfl, hQ, hx, hZ, hown, hby, hml, hret, hlk, hnm, hh⟩ := D
  intro T locs X eT N
  obtain ⟨v, _, ⟨T1, L1, k1, n1⟩, -, X1, ⟨Lc, hQ1, l1, y1, z1⟩, st1⟩ := X.specialBack hx (y := z) hz1 hown (mvT hZ w1) (mvT hZ w2) (mvT hZ w4) hz (backOf (W := W) (Q := fun v h L => Fr _ L ∧ Qz v h) M hZ w4 w3 hf hlo) (g := mkF m pc ls st) rfl (hls.trans hml.symm) (Steps.refl _) (a := a) (argsL := argsL) (rest := rest) (lenOf hpd hlen) hst (by show 2 * 0 + _ ≤ _; rw [hW]; omega) (hb hby hd) (fun _ _ => ⟨rfl, eT, Nat.le_trans hce hc, Nat.le_trans hsl hs⟩)
  dsimp only [Pt.U, Pt.locs, Pt.cells, Pt.slots] at X1 l1 y1 z1 st1 hQ1
  subst l1 y1 z1
  obtain ⟨s₂, o, g1, g2⟩ := G v T1.heap hQ1.2 T1 _ (sd_mono X1 hce hsl) rfl (Fr.app N hQ1.1)
  exact ⟨s₂, o, st1.trans g1, g2⟩
theorem Go.callV (D : Amb κ l Z y code maxL ret rm h0 n0 Q) {a : Addr} {C : String} {zr : MethodName} (M : Con l Z z bytes maxLz retz rmz [] (.ref a :: argsL).toArray h n0 Qz) (w1 : (Jvm.Cond.methodLink y.cls idx zr).before a0 Z = true) (w2 : (Jvm.Cond.declares zr).before a0 Z = true) (ws : (Jvm.Cond.selects C zr z).before a0 Z = true) (wi : (Jvm.Cond.instanceMethod z).before a0 Z = true) (w3 : (Jvm.Cond.initialized z.cls).before a0 Z = true) (w4 : (Jvm.Cond.code z bytes maxLz retz).before a0 Z = true)
    (nf : ∀ s : State, Z.Warmed39 s.vm → NotFace s zr) (hz : zr.cls ≠ "java/lang/invoke/MethodHandle" ∧ zr.cls ≠ "java/lang/invoke/VarHandle") (E : Exa Z h a C) (hd : decode code pc = .ok (.invokevirtual idx, 3)) (hp : pc + 3 = pc') (hpd : parseMethodDescriptor zr.desc = some ⟨ps, rt⟩) (hlen : argsL.length = ps.length) (hst : st = argsL.reverse ++ .ref a :: rest) (hls : ls.size = maxL)
    (hf : rmz.frames + 1 ≤ rm.frames) {W : Nat} (hW : (rest.map fun v => v.category).sum = W) (hlo : W + (maxLz + 11) + rmz.locals ≤ rm.locals) (hce : ce + rmz.cells ≤ ce') (hsl : sl + rmz.slots ≤ sl') (hc : ce' ≤ rm.cells) (hs : sl' ≤ rm.slots)
    (G : ∀ v h', Qz v h' → Go κ h' ce' sl' pc' ls (v.toList ++ rest)) : Go κ h ce sl pc ls st := by
  subst hp
  obtain ⟨p, l', e, R, s, m, args, below, meth, c, n0', Q'⟩ := κ
  obtain ⟨rfl, rfl, rfl, hQ, hx, hZ, hown, hby, hml, hret, hlk, hnm, hh⟩ := D
  intro T locs X eT N
  obtain ⟨cq, kq, q1, q2, q3⟩ := isOf hZ eT E
  obtain ⟨v, _, ⟨T1, L1, k1, n1⟩, -, X1, ⟨Lc, hQ1, l1, y1, z1⟩, st1⟩ := X.virtualBack hx (y := zr) (z := z) hown (mvT hZ w1) (mvT hZ w2) (nf s hZ) (mvT hZ ws) (mvT hZ wi) hz (backOf (W := W) (Q := fun v h L => Fr _ L ∧ Qz v h) M hZ w4 w3 hf hlo) q1 q3 (g := mkF m pc ls st) rfl (hls.trans hml.symm) (Steps.refl _) (argsL := argsL) (rest := rest) (lenOf hpd hlen) hst (by show 2 * 0 + _ ≤ _; rw [hW]; omega) (hb hby hd) (fun _ _ => ⟨rfl, eT, Nat.le_trans hce hc, Nat.le_trans hsl hs⟩)
  dsimp only [Pt.U, Pt.locs, Pt.cells, Pt.slots] at X1 l1 y1 z1 st1 hQ1
  subst l1 y1 z1
  obtain ⟨s₂, o, g1, g2⟩ := G v T1.heap hQ1.2 T1 _ (sd_mono X1 hce hsl) rfl (Fr.app N hQ1.1)
  exact ⟨s₂, o, st1.trans g1, g2⟩
/-- selects y.cls y y: the class named is no interface -/
theorem nfS {C : String} {y : MethodName} (h : (Jvm.Cond.selects C y y).before a0 Z = true) : ∀ s : State, Z.Warmed39 s.vm → NotFace s y := fun s hZ => notFace_of_selects (args := #[]) (mvT hZ h)
end Calls
end Rules
end Jvm.OwnKit

namespace Jvm.Pilot.@@N@@
open Jvm Jvm.ClassFile Sem Op Lib Jvm.Free Jvm.Stand Jvm.LawKit Jvm.RoadKit Bundle Jvm.OwnKit Jvm.Pilot.@@N@@.Jvm.D

/-! numbers -/
theorem own_ti {i : Nat} (h : i < 2147483648) : (Int32.ofNat i).toInt = i := Int32.toInt_ofNat_small (by omega)
theorem own_tn {i : Nat} (h : i < 2147483648) : (Int32.ofNat i).toNatClampNeg = i := by simp only [Int32.toNatClampNeg, own_ti h]; rfl
theorem own_nn {i : Nat} (h : i < 2147483648) : ¬ Int32.ofNat i < 0 := by rw [Int32.lt_iff_toInt_lt, own_ti h]; show ¬ (i : Int) < 0; omega
theorem own_lt {i j : Nat} (hi : i < 2147483648) (hj : j < 2147483648) : Int32.ofNat i < Int32.ofNat j ↔ i < j := by rw [Int32.lt_iff_toInt_lt, own_ti hi, own_ti hj]; omega
theorem own_inj {i j : Nat} (hi : i < 2147483648) (hj : j < 2147483648) (h : Int32.ofNat i = Int32.ofNat j) : i = j := by
  have := congrArg Int32.toInt h; rw [own_ti hi, own_ti hj] at this; omega
theorem own_succ (i : Nat) : Int32.ofNat i + 1 = Int32.ofNat (i + 1) := Int32.ofNat_succ i
theorem own_sub {i j : Nat} (h : j ≤ i) (hi : i < 2147483648) : Int32.ofNat i - Int32.ofNat j = Int32.ofNat (i - j) := by
  apply Int32.toInt_inj.mp
  have h1 := c_isub (Int32.ofNat i) (Int32.ofNat j)
  have h2 := rng32 (Int32.ofNat i - Int32.ofNat j)
  rw [own_ti hi, own_ti (by omega : j < 2147483648)] at h1
  rw [own_ti (by omega : i - j < 2147483648)]
  omega
theorem own_pred {i : Nat} (h : 0 < i) (hi : i < 2147483648) : Int32.ofNat i - 1 = Int32.ofNat (i - 1) := own_sub (j := 1) h hi
theorem own_dbl {i : Nat} (h : i < 1073741824) : (2 : Int32) * Int32.ofNat i = Int32.ofNat (2 * i) := by
  apply Int32.toInt_inj.mp
  have h1 := c_imul (2 : Int32) (Int32.ofNat i)
  have h2 := rng32 ((2 : Int32) * Int32.ofNat i)
  rw [own_ti (by omega : i < 2147483648), show (2 : Int32).toInt = 2 from rfl] at h1
  rw [own_ti (by omega : 2 * i < 2147483648)]
  omega
theorem own_mid {i j : Nat} (h : i < j) (hj : j < 1048576) : ushr (Int32.ofNat i + (Int32.ofNat j - 1)) 1 = Int32.ofNat ((i + j - 1) / 2) := by
  apply Int32.toInt_inj.mp
  rw [own_pred (by omega) (by omega), own_ti (by omega : (i + j - 1) / 2 < 2147483648)]
  have h1 := c_iadd (Int32.ofNat i) (Int32.ofNat (j - 1))
  have h2 := rng32 (Int32.ofNat i + Int32.ofNat (j - 1))
  rw [own_ti (by omega : i < 2147483648), own_ti (by omega : j - 1 < 2147483648)] at h1
  have h3 := c_iushr (Int32.ofNat i + Int32.ofNat (j - 1)) 1 1 (by decide) (by decide)
  show ((Int32.ofNat i + Int32.ofNat (j - 1)).toUInt32 >>> ((1 : Int32) &&& 31).toUInt32).toInt32.toInt = _
  rw [h3]
  omega
theorem own_undo (x : Int32) : -(-(x + 1)) - 1 = x := by rw [Int32.neg_neg, Int32.add_sub_cancel]
theorem own_neg {i : Nat} (h : i < 1048576) : -(Int32.ofNat i + 1) < 0 := by
  rw [own_succ, Int32.lt_iff_toInt_lt]
  have h1 := c_ineg (Int32.ofNat (i + 1))
  have h2 := rng32 (-Int32.ofNat (i + 1))
  rw [own_ti (by omega : i + 1 < 2147483648)] at h1
  show (-Int32.ofNat (i + 1)).toInt < 0
  omega
/-! codes with their counts -/
def cnt : List (Int32 × Nat) → Int32 → Nat
  | [], _ => 0
  | p :: r, x => (if p.1 = x then p.2 else 0) + cnt r x
theorem cnt_app (A B : List (Int32 × Nat)) (x : Int32) : cnt (A ++ B) x = cnt A x + cnt B x := by
  induction A with
  | nil => simp [cnt]
  | cons p r ih => simp [cnt, ih, Nat.add_assoc]
theorem cnt_zero {ps : List (Int32 × Nat)} {x : Int32} (h : ∀ p ∈ ps, p.1 ≠ x) : cnt ps x = 0 := by
  induction ps with
  | nil => rfl
  | cons p r ih => simp [cnt, h p (by simp), ih fun q hq => h q (by simp [hq])]
theorem cnt_mem {ps : List (Int32 × Nat)} {x : Int32} (h : 0 < cnt ps x) : ∃ p ∈ ps, p.1 = x := by
  refine Classical.byContradiction fun q => ?_
  have : cnt ps x = 0 := cnt_zero fun p hp e => q ⟨p, hp, e⟩
  omega
def Srt (ps : List (Int32 × Nat)) : Prop := ps.Pairwise fun p q => p.1 < q.1
def Cts (N : Nat) (ps : List (Int32 × Nat)) : Prop := ps.length ≤ N ∧ ∀ p ∈ ps, 0 < p.2 ∧ p.2 ≤ N
/-- what the search answers -/
def BS (ps : List (Int32 × Nat)) (key r : Int32) : Prop :=
  (∃ A n B, ps = A ++ (key, n) :: B ∧ r = Int32.ofNat A.length) ∨ (∃ A B, ps = A ++ B ∧ (∀ p ∈ A, p.1 < key) ∧ (∀ p ∈ B, key < p.1) ∧ r = -(Int32.ofNat A.length + 1))
def ky (ps : List (Int32 × Nat)) (i : Nat) : Int32 := (ps.getD i (0, 0)).1
theorem ky_get {ps : List (Int32 × Nat)} {i : Nat} (h : i < ps.length) : ky ps i = ps[i].1 := by simp [ky, h]
theorem ky_lt {ps : List (Int32 × Nat)} (hs : Srt ps) {i j : Nat} (h : i < j) (hj : j < ps.length) : ky ps i < ky ps j := by
  rw [ky_get (Nat.lt_trans h hj), ky_get hj]
  exact List.pairwise_iff_getElem.mp hs i j (Nat.lt_trans h hj) hj h
theorem split_at {ps : List (Int32 × Nat)} {i : Nat} (h : i < ps.length) : ps = ps.take i ++ ps[i] :: ps.drop (i + 1) := by
  rw [List.getElem_cons_drop, List.take_append_drop]
theorem bs_hit {ps : List (Int32 × Nat)} {q : Nat} (h : q < ps.length) {key : Int32} (hk : ky ps q = key) : BS ps key (Int32.ofNat q) := by
  refine Or.inl ⟨ps.take q, ps[q].2, ps.drop (q + 1), ?_, ?_⟩
  · rw [← hk, ky_get h]; exact split_at h
  · rw [List.length_take, Nat.min_eq_left (Nat.le_of_lt h)]
theorem bs_miss {ps : List (Int32 × Nat)} {i : Nat} (h : i ≤ ps.length) {key : Int32} (h1 : ∀ t, t < i → ky ps t < key) (h2 : ∀ t, i ≤ t → t < ps.length → key < ky ps t) : BS ps key (-(Int32.ofNat i + 1)) := by
  refine Or.inr ⟨ps.take i, ps.drop i, (List.take_append_drop i ps).symm, fun p hp => ?_, fun p hp => ?_, by rw [List.length_take, Nat.min_eq_left h]⟩
  · obtain ⟨t, ht, rfl⟩ := List.getElem_of_mem hp
    have ht' : t < i := by rw [List.length_take] at ht; omega
    rw [List.getElem_take, ← ky_get (by omega)]; exact h1 t ht'
  · obtain ⟨t, ht, rfl⟩ := List.getElem_of_mem hp
    have ht' : i + t < ps.length := by rw [List.length_drop] at ht; omega
    rw [List.getElem_drop, ← ky_get ht']; exact h2 (i + t) (by omega) ht'
def vc (ps : List (Int32 × Nat)) : List Value := ps.map fun p => .int p.1
def vn (ps : List (Int32 × Nat)) : List Value := ps.map fun p => .int (Int32.ofNat p.2)
theorem vc_len (ps : List (Int32 × Nat)) : (vc ps).length = ps.length := by simp [vc]
theorem vn_len (ps : List (Int32 × Nat)) : (vn ps).length = ps.length := by simp [vn]
theorem vc_at {ps : List (Int32 × Nat)} {J : List Value} {d : Value} {i : Nat} (h : i < ps.length) : (vc ps ++ J).getD i d = .int (ky ps i) := by
  simp [vc, ky, h, List.getElem?_append_left]
theorem vn_at {A B : List (Int32 × Nat)} {J : List Value} {d : Value} {c : Int32} {n : Nat} : (vn (A ++ (c, n) :: B) ++ J).getD A.length d = .int (Int32.ofNat n) := by
  simp [vn]
/-- a place inserted: the part behind it moved up by one, then the place written -/
theorem ins_list {A B : List Value} {j : Value} {J : List Value} {dv c : Value} : ((((A ++ B ++ j :: J).take (A.length + 1) ++ ((List.range B.length).map fun i => (A ++ B ++ j :: J).getD (A.length + i) dv)) ++ (A ++ B ++ j :: J).drop (A.length + 1 + B.length)).set A.length c) = A ++ c :: (B ++ J) := by
  have h1 : ((List.range B.length).map fun i => (A ++ B ++ j :: J).getD (A.length + i) dv) = B := by
    apply List.ext_getElem (by simp)
    intro i h1 h2
    simp at h1
    simp [List.getElem?_append_left, List.getElem?_append_right, h1]
  have h2 : (A ++ B ++ j :: J).drop (A.length + 1 + B.length) = J := by
    rw [show A.length + 1 + B.length = (A ++ B ++ [j]).length by simp; omega, show A ++ B ++ j :: J = (A ++ B ++ [j]) ++ J by simp, List.drop_left]
  obtain ⟨x, hx⟩ : ∃ x, (A ++ B ++ j :: J).take (A.length + 1) = A ++ [x] := by
    cases B with
    | nil => exact ⟨j, by rw [show A ++ [] ++ j :: J = (A ++ [j]) ++ J by simp, show A.length + 1 = (A ++ [j]).length by simp, List.take_left]⟩
    | cons b B => exact ⟨b, by rw [show A ++ b :: B ++ j :: J = (A ++ [b]) ++ (B ++ j :: J) by simp, show A.length + 1 = (A ++ [b]).length by simp, List.take_left]⟩
  rw [h1, h2, hx]
  simp
/-- a place taken out: the part behind it moved down by one -/
theorem del_list {A B : List Value} {c dv : Value} {J : List Value} : ∃ j, ((A ++ c :: B ++ J).take A.length ++ ((List.range B.length).map fun i => (A ++ c :: B ++ J).getD (A.length + 1 + i) dv)) ++ (A ++ c :: B ++ J).drop (A.length + B.length) = A ++ B ++ j :: J := by
  have h1 : ((List.range B.length).map fun i => (A ++ c :: B ++ J).getD (A.length + 1 + i) dv) = B := by
    apply List.ext_getElem (by simp)
    intro i h1 h2
    simp at h1
    have e : A ++ c :: B ++ J = A ++ (c :: (B ++ J)) := by simp
    simp only [List.getElem_map, List.getElem_range, e, List.getD_eq_getElem?_getD]
    rw [List.getElem?_append_right (by omega), show A.length + 1 + i - A.length = i + 1 by omega, List.getElem?_cons_succ, List.getElem?_append_left h1]
    simp [h1]
  have h2 : (A ++ c :: B ++ J).take A.length = A := by rw [List.append_assoc, List.take_left]
  have h3 : ∃ j, (A ++ c :: B ++ J).drop (A.length + B.length) = j :: J := by
    have e : (A ++ c :: B ++ J).drop (A.length + B.length) = (c :: B).drop B.length ++ J := by
      rw [List.append_assoc, ← List.drop_drop, List.drop_left, List.drop_append_of_le_length (by simp)]
    rw [e]
    rcases List.eq_nil_or_concat B with rfl | ⟨B', b, rfl⟩
    · exact ⟨c, rfl⟩
    · exact ⟨b, by rw [show c :: B'.concat b = (c :: B') ++ [b] by simp, show (B'.concat b).length = (c :: B').length by simp, List.drop_left]; rfl⟩
  obtain ⟨j, h3⟩ := h3
  exact ⟨j, by rw [h1, h2, h3]⟩
theorem last_top {ps : List (Int32 × Nat)} {N : Nat} (hs : Srt ps) (hc : Cts N ps) {A : List (Int32 × Nat)} {r : Int32} {n : Nat} (e : ps = A ++ [(r, n)]) : 0 < cnt ps r ∧ ∀ x, 0 < cnt ps x → ¬ r < x := by
  subst e
  have hn : 0 < n := (hc.2 (r, n) (by simp)).1
  refine ⟨by rw [cnt_app]; simp [cnt]; omega, fun x hx q => ?_⟩
  obtain ⟨p, hp, rfl⟩ := cnt_mem hx
  rcases List.mem_append.mp hp with hp | hp
  · have := (List.pairwise_append.mp hs).2.2 p hp (r, n) (by simp)
    exact Int32.lt_irrefl (Int32.lt_trans q this)
  · simp at hp; subst hp; exact Int32.lt_irrefl q
theorem ins_srt {A B : List (Int32 × Nat)} {c : Int32} {n : Nat} (hs : Srt (A ++ B)) (h1 : ∀ p ∈ A, p.1 < c) (h2 : ∀ p ∈ B, c < p.1) : Srt (A ++ (c, n) :: B) := by
  obtain ⟨a1, a2, a3⟩ := List.pairwise_append.mp hs
  refine List.pairwise_append.mpr ⟨a1, List.pairwise_cons.mpr ⟨h2, a2⟩, fun p hp q hq => ?_⟩
  rcases List.mem_cons.mp hq with rfl | hq
  · exact h1 p hp
  · exact a3 p hp q hq
theorem set_srt {A B : List (Int32 × Nat)} {c : Int32} {n n' : Nat} (hs : Srt (A ++ (c, n) :: B)) : Srt (A ++ (c, n') :: B) := by
  obtain ⟨a1, a2, a3⟩ := List.pairwise_append.mp hs
  refine List.pairwise_append.mpr ⟨a1, List.pairwise_cons.mpr ⟨(List.pairwise_cons.mp a2).1, (List.pairwise_cons.mp a2).2⟩, fun p hp q hq => ?_⟩
  rcases List.mem_cons.mp hq with rfl | hq
  · exact a3 p hp (c, n) (by simp)
  · exact a3 p hp q (by simp [hq])
theorem del_srt {A B : List (Int32 × Nat)} {c : Int32} {n : Nat} (hs : Srt (A ++ (c, n) :: B)) : Srt (A ++ B) := by
  obtain ⟨a1, a2, a3⟩ := List.pairwise_append.mp hs
  exact List.pairwise_append.mpr ⟨a1, (List.pairwise_cons.mp a2).2, fun p hp q hq => a3 p hp q (by simp [hq])⟩
theorem bs_cnt {ps : List (Int32 × Nat)} {key r : Int32} (h : ∃ A B, ps = A ++ B ∧ (∀ p ∈ A, p.1 < key) ∧ (∀ p ∈ B, key < p.1) ∧ r = -(Int32.ofNat A.length + 1)) : cnt ps key = 0 := by
  obtain ⟨A, B, rfl, h1, h2, -⟩ := h
  refine cnt_zero fun p hp e => ?_
  rcases List.mem_append.mp hp with hp | hp
  · have := h1 p hp; rw [e] at this; exact Int32.lt_irrefl this
  · have := h2 p hp; rw [e] at this; exact Int32.lt_irrefl this
theorem own_add {c c' : Nat} {a x : Int32} (h : c' = c + if a = x then 1 else 0) : (a = x ∧ c' = c + 1) ∨ (¬ a = x ∧ c' = c) := by
  by_cases q : a = x
  · exact Or.inl ⟨q, by rw [if_pos q] at h; exact h⟩
  · exact Or.inr ⟨q, by rw [if_neg q] at h; exact h⟩
theorem own_rem {c c' : Nat} {a x : Int32} (h : c' + (if a = x then 1 else 0) = c) : (a = x ∧ c' + 1 = c) ∨ (¬ a = x ∧ c' = c) := by
  by_cases q : a = x
  · exact Or.inl ⟨q, by rw [if_pos q] at h; exact h⟩
  · exact Or.inr ⟨q, by rw [if_neg q] at h; exact h⟩
theorem own_ne {a b : Nat} (h : a < b ∨ b < a) : a ≠ b := fun e => by subst e; omega
theorem own_ltn {a b : Nat} (h : a < b) : a < b := h
theorem cnt_at {A B : List (Int32 × Nat)} {c : Int32} {n : Nat} (hs : Srt (A ++ (c, n) :: B)) : cnt (A ++ (c, n) :: B) c = n := by
  obtain ⟨a1, a2, a3⟩ := List.pairwise_append.mp hs
  have h1 : cnt A c = 0 := cnt_zero fun p hp e => by have := a3 p hp (c, n) (by simp); rw [e] at this; exact Int32.lt_irrefl this
  have h2 : cnt B c = 0 := cnt_zero fun p hp e => by have := (List.pairwise_cons.mp a2).1 p hp; rw [e] at this; exact Int32.lt_irrefl this
  rw [cnt_app]; simp [cnt, h1, h2]

def FB (Z : State) (h : Heap) (t : Addr) (u1 u2 : Value) (d : Int32) (fc : Int64) : Prop := Exa Z h t "com/example/opaque_cohort/opaquecohort/CodeTally" ∧ Fld Z h t "com/example/opaque_cohort/opaquecohort/CodeTally" "codes" "[I" u1 ∧ Fld Z h t "com/example/opaque_cohort/opaquecohort/CodeTally" "counts" "[I" u2 ∧ Fld Z h t "com/example/opaque_cohort/opaquecohort/CodeTally" "distinct" "I" (.int d) ∧ Fld Z h t "com/example/opaque_cohort/opaquecohort/CodeTally" "firstCodes" "J" (.long fc)
theorem FB.keep {Z : State} {h h' : Heap} {t : Addr} {u1 u2 : Value} {d : Int32} {fc : Int64} {ws : List Addr} (F : FB Z h t u1 u2 d fc) (K : Keep h h' ws) (q : t ∉ ws) : FB Z h' t u1 u2 d fc := ⟨F.1.keep K, F.2.1.keep K q, F.2.2.1.keep K q, F.2.2.2.1.keep K q, F.2.2.2.2.keep K q⟩
theorem FB.ext {Z : State} {h h' : Heap} {t : Addr} {u1 u2 : Value} {d : Int32} {fc : Int64} (F : FB Z h t u1 u2 d fc) (E : Ext h h') : FB Z h' t u1 u2 d fc := ⟨F.1.ext E, F.2.1.ext E, F.2.2.1.ext E, F.2.2.2.1.ext E, F.2.2.2.2.ext E⟩
theorem FB.set_codes {Z : State} {a0 : Array Value} (hw : ∀ d ∈ tables_1, d.before a0 Z = true) {h h' : Heap} {t : Addr} {u1 u2 : Value} {d : Int32} {fc : Int64} {v : Value} (F : FB Z h t u1 u2 d fc) (W : Wr h h' t (Jvm.RoadKit.slotOf Z "com/example/opaque_cohort/opaquecohort/CodeTally" "codes" "[I") v) : FB Z h' t v u2 d fc := ⟨F.1.wr W, F.2.1.same W, F.2.2.1.other W (Or.inr (slot_ne (Or.inl (hw _ (List.mem_of_getElem? (i := 17) rfl))) (Or.inl (hw _ (List.mem_of_getElem? (i := 15) rfl))) (by decide) (t := .array .int) (t' := .array .int) (by decide) (by decide))), F.2.2.2.1.other W (Or.inr (slot_ne (Or.inl (hw _ (List.mem_of_getElem? (i := 24) rfl))) (Or.inl (hw _ (List.mem_of_getElem? (i := 15) rfl))) (by decide) (t := .int) (t' := .array .int) (by decide) (by decide))), F.2.2.2.2.other W (Or.inr (slot_ne (Or.inl (hw _ (List.mem_of_getElem? (i := 40) rfl))) (Or.inl (hw _ (List.mem_of_getElem? (i := 15) rfl))) (by decide) (t := .long) (t' := .array .int) (by decide) (by decide)))⟩
theorem FB.set_counts {Z : State} {a0 : Array Value} (hw : ∀ d ∈ tables_1, d.before a0 Z = true) {h h' : Heap} {t : Addr} {u1 u2 : Value} {d : Int32} {fc : Int64} {v : Value} (F : FB Z h t u1 u2 d fc) (W : Wr h h' t (Jvm.RoadKit.slotOf Z "com/example/opaque_cohort/opaquecohort/CodeTally" "counts" "[I") v) : FB Z h' t u1 v d fc := ⟨F.1.wr W, F.2.1.other W (Or.inr (slot_ne (Or.inl (hw _ (List.mem_of_getElem? (i := 15) rfl))) (Or.inl (hw _ (List.mem_of_getElem? (i := 17) rfl))) (by decide) (t := .array .int) (t' := .array .int) (by decide) (by decide))), F.2.2.1.same W, F.2.2.2.1.other W (Or.inr (slot_ne (Or.inl (hw _ (List.mem_of_getElem? (i := 24) rfl))) (Or.inl (hw _ (List.mem_of_getElem? (i := 17) rfl))) (by decide) (t := .int) (t' := .array .int) (by decide) (by decide))), F.2.2.2.2.other W (Or.inr (slot_ne (Or.inl (hw _ (List.mem_of_getElem? (i := 40) rfl))) (Or.inl (hw _ (List.mem_of_getElem? (i := 17) rfl))) (by decide) (t := .long) (t' := .array .int) (by decide) (by decide)))⟩
theorem FB.set_distinct {Z : State} {a0 : Array Value} (hw : ∀ d ∈ tables_1, d.before a0 Z = true) {h h' : Heap} {t : Addr} {u1 u2 : Value} {d : Int32} {fc : Int64} {v : Int32} (F : FB Z h t u1 u2 d fc) (W : Wr h h' t (Jvm.RoadKit.slotOf Z "com/example/opaque_cohort/opaquecohort/CodeTally" "distinct" "I") (.int v)) : FB Z h' t u1 u2 v fc := ⟨F.1.wr W, F.2.1.other W (Or.inr (slot_ne (Or.inl (hw _ (List.mem_of_getElem? (i := 15) rfl))) (Or.inl (hw _ (List.mem_of_getElem? (i := 24) rfl))) (by decide) (t := .array .int) (t' := .int) (by decide) (by decide))), F.2.2.1.other W (Or.inr (slot_ne (Or.inl (hw _ (List.mem_of_getElem? (i := 17) rfl))) (Or.inl (hw _ (List.mem_of_getElem? (i := 24) rfl))) (by decide) (t := .array .int) (t' := .int) (by decide) (by decide))), F.2.2.2.1.same W, F.2.2.2.2.other W (Or.inr (slot_ne (Or.inl (hw _ (List.mem_of_getElem? (i := 40) rfl))) (Or.inl (hw _ (List.mem_of_getElem? (i := 24) rfl))) (by decide) (t := .long) (t' := .int) (by decide) (by decide)))⟩
theorem FB.set_firstCodes {Z : State} {a0 : Array Value} (hw : ∀ d ∈ tables_1, d.before a0 Z = true) {h h' : Heap} {t : Addr} {u1 u2 : Value} {d : Int32} {fc : Int64} {v : Int64} (F : FB Z h t u1 u2 d fc) (W : Wr h h' t (Jvm.RoadKit.slotOf Z "com/example/opaque_cohort/opaquecohort/CodeTally" "firstCodes" "J") (.long v)) : FB Z h' t u1 u2 d v := ⟨F.1.wr W, F.2.1.other W (Or.inr (slot_ne (Or.inl (hw _ (List.mem_of_getElem? (i := 15) rfl))) (Or.inl (hw _ (List.mem_of_getElem? (i := 40) rfl))) (by decide) (t := .array .int) (t' := .long) (by decide) (by decide))), F.2.2.1.other W (Or.inr (slot_ne (Or.inl (hw _ (List.mem_of_getElem? (i := 17) rfl))) (Or.inl (hw _ (List.mem_of_getElem? (i := 40) rfl))) (by decide) (t := .array .int) (t' := .long) (by decide) (by decide))), F.2.2.2.1.other W (Or.inr (slot_ne (Or.inl (hw _ (List.mem_of_getElem? (i := 24) rfl))) (Or.inl (hw _ (List.mem_of_getElem? (i := 40) rfl))) (by decide) (t := .int) (t' := .long) (by decide) (by decide))), F.2.2.2.2.same W⟩
/-- the tally t holds the codes ps with their counts -/
def Tal (Z : State) (h : Heap) (n0 : Nat) (t : Addr) (cap : Nat) (ps : List (Int32 × Nat)) (fc : Int64) : Prop := ∃ (ca na : Addr) (ka kb : ClassId) (jc jn : List Value), FB Z h t (.ref ca) (.ref na) (Int32.ofNat ps.length) fc ∧ Arv Z h ca ka .int (Int32.ofNat cap) (vc ps ++ jc) (.int 0) ∧ Arv Z h na kb .int (Int32.ofNat cap) (vn ps ++ jn) (.int 0) ∧ ps.length + jc.length = cap ∧ ps.length + jn.length = cap ∧ ca ≠ na ∧ ca ≠ t ∧ na ≠ t ∧ n0 ≤ t ∧ n0 ≤ ca ∧ n0 ≤ na
def FcA (k : Nat) (a : Int32) (fc fc' : Int64) : Prop := (0 < k ∧ fc' = fc) ∨ (k = 0 ∧ ((¬ a < 64 ∧ fc' = fc) ∨ (a < 64 ∧ fc' = fc ||| ((1 : Int64) <<< (a &&& 63).toInt64))))
def FcR (k : Nat) (a : Int32) (fc fc' : Int64) : Prop := (1 < k ∧ fc' = fc) ∨ (k = 1 ∧ ((¬ a < 64 ∧ fc' = fc) ∨ (a < 64 ∧ fc' = fc &&& (((1 : Int64) <<< (a &&& 63).toInt64) ^^^ (-1)))))
theorem Tal.up {Z : State} {h h' : Heap} {n0 : Nat} {t : Addr} {cap : Nat} {ps : List (Int32 × Nat)} {fc : Int64} (T : Tal Z h n0 t cap ps fc) (E : Ext h h') : Tal Z h' n0 t cap ps fc := by
  obtain ⟨ca, na, ka, kb, jc, jn, F, Ac, An, r⟩ := T
  exact ⟨ca, na, ka, kb, jc, jn, F.ext E, Ac.ext E, An.ext E, r⟩

theorem Tal.exa {Z : State} {h : Heap} {n0 : Nat} {t : Addr} {cap : Nat} {ps : List (Int32 × Nat)} {fc : Int64} (T : Tal Z h n0 t cap ps fc) : Exa Z h t "com/example/opaque_cohort/opaquecohort/CodeTally" := by
  obtain ⟨ca, na, ka, kb, jc, jn, F, r⟩ := T; exact F.1
theorem Tal.sz {Z : State} {h : Heap} {n0 : Nat} {t : Addr} {cap : Nat} {ps : List (Int32 × Nat)} {fc : Int64} (T : Tal Z h n0 t cap ps fc) : n0 ≤ h.size := by
  obtain ⟨ca, na, ka, kb, jc, jn, F, -, -, -, -, -, -, -, g, -⟩ := T; exact Nat.le_trans g (Nat.le_of_lt F.1.lt)

theorem bit_tab : ∀ i : Fin 64, ((1 : Int64) <<< (Int32.ofNat i.1 &&& 63).toInt64).toBitVec = BitVec.twoPow 64 i.1 := by decide +kernel
theorem bit_of {x : Int32} (h1 : ¬ x < 0) (h2 : x < 64) : ∃ i : Nat, i < 64 ∧ x = Int32.ofNat i ∧ ((1 : Int64) <<< (x &&& 63).toInt64).toBitVec = BitVec.twoPow 64 i := by
  rw [Int32.lt_iff_toInt_lt] at h1 h2
  have e0 : (0 : Int32).toInt = 0 := rfl
  have e6 : (64 : Int32).toInt = 64 := rfl
  have hi : x.toInt.toNat < 64 := by omega
  have hx : x = Int32.ofNat x.toInt.toNat := Int32.toInt_inj.mp (by rw [own_ti (by omega)]; omega)
  refine ⟨x.toInt.toNat, hi, hx, ?_⟩
  have := bit_tab ⟨x.toInt.toNat, hi⟩
  rw [← hx] at this
  exact this
def Bt (fc : Int64) (x : Int32) : Prop := ¬ (fc &&& ((1 : Int64) <<< (x &&& 63).toInt64)) = 0
theorem bt_iff {fc : Int64} {x : Int32} {i : Nat} (hi : i < 64) (e : ((1 : Int64) <<< (x &&& 63).toInt64).toBitVec = BitVec.twoPow 64 i) : Bt fc x ↔ fc.toBitVec.getLsbD i = true := by
  unfold Bt
  rw [← Int64.toBitVec_inj, Int64.toBitVec_and, e, BitVec.and_twoPow]
  cases h : fc.toBitVec.getLsbD i with
  | false => simp
  | true =>
    simp only [if_true]
    refine ⟨fun _ => by first | rfl | trivial, fun _ q => ?_⟩
    have := congrArg (fun b => BitVec.getLsbD b i) q
    simp [BitVec.getLsbD_twoPow, hi] at this
theorem bt_or {fc : Int64} {a x : Int32} (ha : ¬ a < 0) (ha' : a < 64) (hx : ¬ x < 0) (hx' : x < 64) : Bt (fc ||| ((1 : Int64) <<< (a &&& 63).toInt64)) x ↔ (Bt fc x ∨ a = x) := by
  obtain ⟨i, hi, ei, bi⟩ := bit_of ha ha'
  obtain ⟨j, hj, ej, bj⟩ := bit_of hx hx'
  rw [bt_iff hj bj, bt_iff hj bj, Int64.toBitVec_or, bi, BitVec.getLsbD_or, BitVec.getLsbD_twoPow, Bool.or_eq_true, Bool.and_eq_true, decide_eq_true_eq, decide_eq_true_eq]
  constructor
  · rintro (q | q)
    · exact Or.inl q
    · exact Or.inr (by rw [ei, ej, q.2])
  · rintro (q | q)
    · exact Or.inl q
    · refine Or.inr ⟨hi, own_inj (by omega) (by omega) ?_⟩
      rw [← ei, ← ej]; exact q
theorem bt_out {fc : Int64} {a x : Int32} (ha : ¬ a < 0) (ha' : a < 64) (hx : ¬ x < 0) (hx' : x < 64) : Bt (fc &&& (((1 : Int64) <<< (a &&& 63).toInt64) ^^^ (-1))) x ↔ (Bt fc x ∧ ¬ a = x) := by
  obtain ⟨i, hi, ei, bi⟩ := bit_of ha ha'
  obtain ⟨j, hj, ej, bj⟩ := bit_of hx hx'
  have hm : (-1 : Int64).toBitVec = BitVec.allOnes 64 := by decide
  rw [bt_iff hj bj, bt_iff hj bj, Int64.toBitVec_and, Int64.toBitVec_xor, bi, hm, BitVec.getLsbD_and, BitVec.getLsbD_xor, BitVec.getLsbD_twoPow, BitVec.getLsbD_allOnes, Bool.and_eq_true]
  constructor
  · rintro ⟨q1, q2⟩
    refine ⟨q1, fun q => ?_⟩
    have : i = j := own_inj (by omega) (by omega) (by rw [← ei, ← ej]; exact q)
    subst this
    simp [hi] at q2
  · rintro ⟨q1, q2⟩
    refine ⟨q1, ?_⟩
    have : i ≠ j := fun q => q2 (by rw [ei, ej, q])
    simp [hj, this]
/-- the bits of the codes below 64 -/
def FI (fc : Int64) (ps : List (Int32 × Nat)) : Prop := ∀ x : Int32, ¬ x < 0 → x < 64 → (Bt fc x ↔ 0 < cnt ps x)
theorem FI.start : FI 0 [] := fun x _ _ => by simp [Bt, cnt]
theorem FI.add {fc fc' : Int64} {ps ps' : List (Int32 × Nat)} {a : Int32} (F : FI fc ps) (ha : ¬ a < 0) (he : ∀ x, cnt ps' x = cnt ps x + if a = x then 1 else 0) (hf : FcA (cnt ps a) a fc fc') : FI fc' ps' := fun x h1 h2 => by
  rw [he x]
  rcases hf with ⟨k, rfl⟩ | ⟨k, ⟨q, rfl⟩ | ⟨q, rfl⟩⟩
  · rw [F x h1 h2]
    by_cases e : a = x
    · subst e; simp; omega
    · simp [e]
  · rw [F x h1 h2]
    have e : ¬ a = x := fun e => q (e ▸ h2)
    simp [e]
  · rw [bt_or ha q h1 h2, F x h1 h2]
    by_cases e : a = x <;> simp [e]
theorem FI.remove {fc fc' : Int64} {ps ps' : List (Int32 × Nat)} {a : Int32} (F : FI fc ps) (ha : ¬ a < 0) (he : ∀ x, cnt ps' x + (if a = x then 1 else 0) = cnt ps x) (hf : FcR (cnt ps a) a fc fc') : FI fc' ps' := fun x h1 h2 => by
  have hx := he x
  rcases hf with ⟨k, rfl⟩ | ⟨k, ⟨q, rfl⟩ | ⟨q, rfl⟩⟩
  · rw [F x h1 h2]
    by_cases e : a = x
    · subst e; rw [if_pos rfl] at hx; omega
    · rw [if_neg e] at hx; omega
  · rw [F x h1 h2]
    have e : ¬ a = x := fun e => q (e ▸ h2)
    rw [if_neg e] at hx; omega
  · rw [bt_out ha q h1 h2, F x h1 h2]
    by_cases e : a = x
    · subst e; rw [if_pos rfl] at hx; simp; omega
    · rw [if_neg e] at hx; simp [e]; omega

abbrev y9 : MethodName := ⟨"java/lang/Math", "min", "(II)I"⟩
theorem d9_0 : decode jdk_29_method_69_code 0 = .ok (.iload_n 0, 1) := by decide +kernel
theorem d9_1 : decode jdk_29_method_69_code 1 = .ok (.iload_n 1, 1) := by decide +kernel
theorem d9_2 : decode jdk_29_method_69_code 2 = .ok (.if_icmp .gt 7, 3) := by decide +kernel
theorem d9_5 : decode jdk_29_method_69_code 5 = .ok (.iload_n 0, 1) := by decide +kernel
theorem d9_6 : decode jdk_29_method_69_code 6 = .ok (.goto 4, 3) := by decide +kernel
theorem d9_9 : decode jdk_29_method_69_code 9 = .ok (.iload_n 1, 1) := by decide +kernel
theorem d9_10 : decode jdk_29_method_69_code 10 = .ok (.ireturn, 1) := by decide +kernel
theorem pd9 : parseMethodDescriptor "(II)I" = some ⟨[.int, .int], (some .int)⟩ := by decide +kernel
theorem pn9 : plainFor y9 = true := by first | exact plainFor_of_name (by first | (simp [plainName, overriddenIn]; done) | decide +kernel) | decide +kernel | rfl
set_option maxRecDepth 65536 in
set_option maxHeartbeats 40000000 in
theorem con_min (l : Launch) (Z : State) (a0 : Array Value) (hw : ∀ d ∈ tables_1, d.before a0 Z = true) (h0 : Heap) (n0 : Nat) (x z : Int32) :
    Con l Z y9 jdk_29_method_69_code 2 ((some .int)) ({ frames := 0, cells := 0, slots := 0, locals := 0 } : Room) [] #[(.int x), (.int z)] h0 n0 (fun v h => h = h0 ∧ ∃ r, v = some (.int r) ∧ ((z < x ∧ r = z) ∨ (¬ z < x ∧ r = x))) := by
  refine Con.of_go pn9 (ls := #[.val (.int x), .val (.int z)]) (fun m => by first | (simp [entryFrame, mkF, argsToLocals, Value.category]; done) | rfl) ?_
  intro κ D
  refine Go.iloadN D (pc' := 1) d9_0 rfl rfl ?_
  refine Go.iloadN D (pc' := 2) d9_1 rfl rfl ?_
  refine Go.icmp D (pc' := 9) (pc2 := 5) d9_2 (by decide) (by decide) rfl ?_ ?_
  · intro (hc2 : z < x)
    refine Go.iloadN D (pc' := 10) d9_9 rfl rfl ?_
    refine Go.iret D rfl d9_10 (by decide) (by decide) ?_
    exact ⟨rfl, _, rfl, Or.inl ⟨hc2, rfl⟩⟩
  · intro (hc2 : ¬ z < x)
    refine Go.iloadN D (pc' := 6) d9_5 rfl rfl ?_
    refine Go.goto D (pc' := 10) d9_6 (by decide) (by decide) ?_
    refine Go.iret D rfl d9_10 (by decide) (by decide) ?_
    exact ⟨rfl, _, rfl, Or.inr ⟨hc2, rfl⟩⟩
abbrev y6 : MethodName := ⟨"java/util/Arrays", "rangeCheck", "(III)V"⟩
theorem d6_0 : decode jdk_65_method_30_code 0 = .ok (.iload_n 1, 1) := by decide +kernel
theorem d6_1 : decode jdk_65_method_30_code 1 = .ok (.iload_n 2, 1) := by decide +kernel
theorem d6_2 : decode jdk_65_method_30_code 2 = .ok (.if_icmp .le 44, 3) := by decide +kernel
theorem d6_46 : decode jdk_65_method_30_code 46 = .ok (.iload_n 1, 1) := by decide +kernel
theorem d6_47 : decode jdk_65_method_30_code 47 = .ok (.ifCond .ge 12, 3) := by decide +kernel
theorem d6_59 : decode jdk_65_method_30_code 59 = .ok (.iload_n 2, 1) := by decide +kernel
theorem d6_60 : decode jdk_65_method_30_code 60 = .ok (.iload_n 0, 1) := by decide +kernel
theorem d6_61 : decode jdk_65_method_30_code 61 = .ok (.if_icmp .le 12, 3) := by decide +kernel
theorem d6_73 : decode jdk_65_method_30_code 73 = .ok (.return_, 1) := by decide +kernel
theorem pd6 : parseMethodDescriptor "(III)V" = some ⟨[.int, .int, .int], none⟩ := by decide +kernel
theorem pn6 : plainFor y6 = true := by first | exact plainFor_of_name (by first | (simp [plainName, overriddenIn]; done) | decide +kernel) | decide +kernel | rfl
set_option maxRecDepth 65536 in
set_option maxHeartbeats 40000000 in
theorem con_range (l : Launch) (Z : State) (a0 : Array Value) (hw : ∀ d ∈ tables_1, d.before a0 Z = true) (h0 : Heap) (n0 : Nat) (len d : Int32) (hd : ¬ d < 0) (hl : ¬ len < d) :
    Con l Z y6 jdk_65_method_30_code 3 none ({ frames := 0, cells := 0, slots := 0, locals := 0 } : Room) [] #[(.int len), (.int (0 : Int32)), (.int d)] h0 n0 (fun v h => v = none ∧ h = h0) := by
  refine Con.of_go pn6 (ls := #[.val (.int len), .val (.int (0 : Int32)), .val (.int d)]) (fun m => by first | (simp [entryFrame, mkF, argsToLocals, Value.category]; done) | rfl) ?_
  intro κ D
  refine Go.iloadN D (pc' := 1) d6_0 rfl rfl ?_
  refine Go.iloadN D (pc' := 2) d6_1 rfl rfl ?_
  refine Go.icmp D (pc' := 46) (pc2 := 5) d6_2 (by decide) (by decide) rfl ?_ ?_
  · intro (hc2 : ¬ d < (0 : Int32))
    refine Go.iloadN D (pc' := 47) d6_46 rfl rfl ?_
    refine Go.ifc D (pc' := 59) (pc2 := 50) d6_47 (by decide) (by decide) rfl (fun _ => ?_) (fun (hc : (0 : Int32) < 0) => absurd hc (by decide))
    refine Go.iloadN D (pc' := 60) d6_59 rfl rfl ?_
    refine Go.iloadN D (pc' := 61) d6_60 rfl rfl ?_
    refine Go.icmp D (pc' := 73) (pc2 := 64) d6_61 (by decide) (by decide) rfl ?_ ?_
    · intro (hc61 : ¬ len < d)
      refine Go.vret D rfl d6_73 (by decide) (by decide) ?_
      exact ⟨rfl, rfl⟩
    · intro (hc61 : len < d)
      exact absurd hc61 hl
  · intro (hc2 : d < (0 : Int32))
    exact absurd hc2 hd
abbrev y7 : MethodName := ⟨"java/util/Arrays", "binarySearch0", "([IIII)I"⟩
theorem d7_0 : decode jdk_65_method_59_code 0 = .ok (.iload_n 1, 1) := by decide +kernel
theorem d7_1 : decode jdk_65_method_59_code 1 = .ok (.istore 4, 2) := by decide +kernel
theorem d7_3 : decode jdk_65_method_59_code 3 = .ok (.iload_n 2, 1) := by decide +kernel
theorem d7_4 : decode jdk_65_method_59_code 4 = .ok (.iconst 1, 1) := by decide +kernel
theorem d7_5 : decode jdk_65_method_59_code 5 = .ok (.isub, 1) := by decide +kernel
theorem d7_6 : decode jdk_65_method_59_code 6 = .ok (.istore 5, 2) := by decide +kernel
theorem d7_8 : decode jdk_65_method_59_code 8 = .ok (.iload 4, 2) := by decide +kernel
theorem d7_10 : decode jdk_65_method_59_code 10 = .ok (.iload 5, 2) := by decide +kernel
theorem d7_12 : decode jdk_65_method_59_code 12 = .ok (.if_icmp .gt 54, 3) := by decide +kernel
theorem d7_15 : decode jdk_65_method_59_code 15 = .ok (.iload 4, 2) := by decide +kernel
theorem d7_17 : decode jdk_65_method_59_code 17 = .ok (.iload 5, 2) := by decide +kernel
theorem d7_19 : decode jdk_65_method_59_code 19 = .ok (.iadd, 1) := by decide +kernel
theorem d7_20 : decode jdk_65_method_59_code 20 = .ok (.iconst 1, 1) := by decide +kernel
theorem d7_21 : decode jdk_65_method_59_code 21 = .ok (.iushr, 1) := by decide +kernel
theorem d7_22 : decode jdk_65_method_59_code 22 = .ok (.istore 6, 2) := by decide +kernel
theorem d7_24 : decode jdk_65_method_59_code 24 = .ok (.aload_n 0, 1) := by decide +kernel
theorem d7_25 : decode jdk_65_method_59_code 25 = .ok (.iload 6, 2) := by decide +kernel
theorem d7_27 : decode jdk_65_method_59_code 27 = .ok (.iaload, 1) := by decide +kernel
theorem d7_28 : decode jdk_65_method_59_code 28 = .ok (.istore 7, 2) := by decide +kernel
theorem d7_30 : decode jdk_65_method_59_code 30 = .ok (.iload 7, 2) := by decide +kernel
theorem d7_32 : decode jdk_65_method_59_code 32 = .ok (.iload_n 3, 1) := by decide +kernel
theorem d7_33 : decode jdk_65_method_59_code 33 = .ok (.if_icmp .ge 12, 3) := by decide +kernel
theorem d7_36 : decode jdk_65_method_59_code 36 = .ok (.iload 6, 2) := by decide +kernel
theorem d7_38 : decode jdk_65_method_59_code 38 = .ok (.iconst 1, 1) := by decide +kernel
theorem d7_39 : decode jdk_65_method_59_code 39 = .ok (.iadd, 1) := by decide +kernel
theorem d7_40 : decode jdk_65_method_59_code 40 = .ok (.istore 4, 2) := by decide +kernel
theorem d7_42 : decode jdk_65_method_59_code 42 = .ok (.goto 21, 3) := by decide +kernel
theorem d7_45 : decode jdk_65_method_59_code 45 = .ok (.iload 7, 2) := by decide +kernel
theorem d7_47 : decode jdk_65_method_59_code 47 = .ok (.iload_n 3, 1) := by decide +kernel
theorem d7_48 : decode jdk_65_method_59_code 48 = .ok (.if_icmp .le 12, 3) := by decide +kernel
theorem d7_51 : decode jdk_65_method_59_code 51 = .ok (.iload 6, 2) := by decide +kernel
theorem d7_53 : decode jdk_65_method_59_code 53 = .ok (.iconst 1, 1) := by decide +kernel
theorem d7_54 : decode jdk_65_method_59_code 54 = .ok (.isub, 1) := by decide +kernel
theorem d7_55 : decode jdk_65_method_59_code 55 = .ok (.istore 5, 2) := by decide +kernel
theorem d7_57 : decode jdk_65_method_59_code 57 = .ok (.goto 6, 3) := by decide +kernel
theorem d7_60 : decode jdk_65_method_59_code 60 = .ok (.iload 6, 2) := by decide +kernel
theorem d7_62 : decode jdk_65_method_59_code 62 = .ok (.ireturn, 1) := by decide +kernel
theorem d7_63 : decode jdk_65_method_59_code 63 = .ok (.goto (-55), 3) := by decide +kernel
theorem d7_66 : decode jdk_65_method_59_code 66 = .ok (.iload 4, 2) := by decide +kernel
theorem d7_68 : decode jdk_65_method_59_code 68 = .ok (.iconst 1, 1) := by decide +kernel
theorem d7_69 : decode jdk_65_method_59_code 69 = .ok (.iadd, 1) := by decide +kernel
theorem d7_70 : decode jdk_65_method_59_code 70 = .ok (.ineg, 1) := by decide +kernel
theorem d7_71 : decode jdk_65_method_59_code 71 = .ok (.ireturn, 1) := by decide +kernel
theorem pd7 : parseMethodDescriptor "([IIII)I" = some ⟨[(.array .int), .int, .int, .int], (some .int)⟩ := by decide +kernel
theorem pn7 : plainFor y7 = true := by first | exact plainFor_of_name (by first | (simp [plainName, overriddenIn]; done) | decide +kernel) | decide +kernel | rfl
set_option maxRecDepth 65536 in
set_option maxHeartbeats 40000000 in
theorem con_bs0 (l : Launch) (Z : State) (a0 : Array Value) (hw : ∀ d ∈ tables_1, d.before a0 Z = true) (h0 : Heap) (n0 : Nat) (a : Addr) (k : ClassId) (cap : Nat) (ps : List (Int32 × Nat)) (J : List Value) (A : Arv Z h0 a k .int (Int32.ofNat cap) (vc ps ++ J) (.int 0)) (hs : Srt ps) (hl : ps.length ≤ cap) (hc : cap < 1048576) (key : Int32) :
    Con l Z y7 jdk_65_method_59_code 8 ((some .int)) ({ frames := 0, cells := 0, slots := 0, locals := 0 } : Room) [] #[(.ref a), (.int (0 : Int32)), (.int (Int32.ofNat ps.length)), (.int key)] h0 n0 (fun v h => h = h0 ∧ ∃ r, v = some (.int r) ∧ BS ps key r) := by
  refine Con.of_go pn7 (ls := #[.val (.ref a), .val (.int (0 : Int32)), .val (.int (Int32.ofNat ps.length)), .val (.int key), .unset, .unset, .unset, .unset]) (fun m => by first | (simp [entryFrame, mkF, argsToLocals, Value.category]; done) | rfl) ?_
  intro κ D
  have loop : ∀ (N i j : Nat) (s6 s7 : Slot), j - i = N → i ≤ j → j ≤ ps.length → (s6 = .unset ∨ ∃ w, s6 = .val w ∧ w.category = 1) → (s7 = .unset ∨ ∃ w, s7 = .val w ∧ w.category = 1) → (∀ u, u < i → ky ps u < key) → (∀ u, j ≤ u → u < ps.length → key < ky ps u) → Go κ h0 0 0 8 #[.val (.ref a), .val (.int (0 : Int32)), .val (.int (Int32.ofNat ps.length)), .val (.int key), .val (.int (Int32.ofNat i)), .val (.int (Int32.ofNat j - 1)), s6, s7] [] := by
    intro N
    induction N using Nat.strongRecOn with
    | _ N ih =>
      intro i j s6 s7 hN hij hj hs6 hs7 hlo hhi
      refine Go.iload D (pc' := 10) d7_8 rfl rfl ?_
      refine Go.iload D (pc' := 12) d7_10 rfl rfl ?_
      refine Go.icmp D (pc' := 66) (pc2 := 15) d7_12 (by decide) (by decide) rfl ?_ ?_
      · intro (hc12 : (Int32.ofNat j - 1) < (Int32.ofNat i))
        refine Go.iload D (pc' := 68) d7_66 rfl rfl ?_
        refine Go.iconst D (pc' := 69) d7_68 rfl (v := (1 : Int32)) rfl ?_
        refine Go.iadd D (pc' := 70) d7_69 rfl  ?_
        refine Go.ineg D (pc' := 71) d7_70 rfl  ?_
        refine Go.iret D rfl d7_71 (by decide) (by decide) ?_
        have hij' : i = j := by
          rw [Int32.lt_iff_toInt_lt, own_ti (by omega : i < 2147483648)] at hc12
          have r1 := c_isub (Int32.ofNat j) 1
          have r2 := rng32 (Int32.ofNat j - 1)
          rw [own_ti (by omega : j < 2147483648), show (1 : Int32).toInt = 1 from rfl] at r1
          omega
        subst hij'
        exact ⟨rfl, _, rfl, bs_miss hj hlo hhi⟩
      · intro (hc12 : ¬ (Int32.ofNat j - 1) < (Int32.ofNat i))
        refine Go.iload D (pc' := 17) d7_15 rfl rfl ?_
        refine Go.iload D (pc' := 19) d7_17 rfl rfl ?_
        refine Go.iadd D (pc' := 20) d7_19 rfl  ?_
        refine Go.iconst D (pc' := 21) d7_20 rfl (v := (1 : Int32)) rfl ?_
        refine Go.iushr D (pc' := 22) d7_21 rfl  ?_
        have hlt : i < j := by
          refine Classical.byContradiction fun q => hc12 ?_
          rw [Int32.lt_iff_toInt_lt, own_ti (by omega : i < 2147483648)]
          have r1 := c_isub (Int32.ofNat j) 1
          have r2 := rng32 (Int32.ofNat j - 1)
          rw [own_ti (by omega : j < 2147483648), show (1 : Int32).toInt = 1 from rfl] at r1
          omega
        rw [own_mid hlt (by omega)]
        obtain ⟨q, hq⟩ : ∃ q, q = (i + j - 1) / 2 := ⟨_, rfl⟩
        rw [← hq]
        refine Go.istoreU D (pc' := 24) d7_22 rfl rfl hs6 (ls' := #[.val (.ref a), .val (.int (0 : Int32)), .val (.int (Int32.ofNat ps.length)), .val (.int key), .val (.int (Int32.ofNat i)), .val (.int (Int32.ofNat j - 1)), .val (.int (Int32.ofNat q)), s7]) rfl ?_
        refine Go.aloadN D (pc' := 25) d7_24 rfl rfl rfl ?_
        refine Go.iload D (pc' := 27) d7_25 rfl rfl ?_
        have hqp : q < ps.length := by omega
        refine Go.iaload D (pc' := 28) d7_27 rfl A (own_nn (by omega)) ((own_lt (by omega) (by omega)).mpr (by omega)) (v := .int (ky ps q)) (by rw [own_tn (by omega)]; exact vc_at hqp) ?_
        refine Go.istoreU D (pc' := 30) d7_28 rfl rfl hs7 (ls' := #[.val (.ref a), .val (.int (0 : Int32)), .val (.int (Int32.ofNat ps.length)), .val (.int key), .val (.int (Int32.ofNat i)), .val (.int (Int32.ofNat j - 1)), .val (.int (Int32.ofNat q)), .val (.int (ky ps q))]) rfl ?_
        refine Go.iload D (pc' := 32) d7_30 rfl rfl ?_
        refine Go.iloadN D (pc' := 33) d7_32 rfl rfl ?_
        refine Go.icmp D (pc' := 45) (pc2 := 36) d7_33 (by decide) (by decide) rfl ?_ ?_
        · intro (hc33 : ¬ (ky ps q) < key)
          refine Go.iload D (pc' := 47) d7_45 rfl rfl ?_
          refine Go.iloadN D (pc' := 48) d7_47 rfl rfl ?_
          refine Go.icmp D (pc' := 60) (pc2 := 51) d7_48 (by decide) (by decide) rfl ?_ ?_
          · intro (hc48 : ¬ key < (ky ps q))
            refine Go.iload D (pc' := 62) d7_60 rfl rfl ?_
            refine Go.iret D rfl d7_62 (by decide) (by decide) ?_
            exact ⟨rfl, _, rfl, bs_hit hqp (Int32.le_antisymm (Int32.not_lt.mp hc48) (Int32.not_lt.mp hc33))⟩
          · intro (hc48 : key < (ky ps q))
            refine Go.iload D (pc' := 53) d7_51 rfl rfl ?_
            refine Go.iconst D (pc' := 54) d7_53 rfl (v := (1 : Int32)) rfl ?_
            refine Go.isub D (pc' := 55) d7_54 rfl  ?_
            refine Go.istore D (pc' := 57) d7_55 rfl (ls' := #[.val (.ref a), .val (.int (0 : Int32)), .val (.int (Int32.ofNat ps.length)), .val (.int key), .val (.int (Int32.ofNat i)), .val (.int ((Int32.ofNat q) - (1 : Int32))), .val (.int (Int32.ofNat q)), .val (.int (ky ps q))]) rfl ?_
            refine Go.goto D (pc' := 63) d7_57 (by decide) (by decide) ?_
            refine Go.goto D (pc' := 8) d7_63 (by decide) (by decide) ?_
            exact ih (q - i) (by omega) i q _ _ rfl (by omega) (by omega) (Or.inr ⟨_, rfl, rfl⟩) (Or.inr ⟨_, rfl, rfl⟩) hlo (fun u h1 h2 => (Nat.lt_or_eq_of_le h1).elim (fun z => Int32.lt_trans hc48 (ky_lt hs z h2)) (fun z => z ▸ hc48))
        · intro (hc33 : (ky ps q) < key)
          refine Go.iload D (pc' := 38) d7_36 rfl rfl ?_
          refine Go.iconst D (pc' := 39) d7_38 rfl (v := (1 : Int32)) rfl ?_
          refine Go.iadd D (pc' := 40) d7_39 rfl  ?_
          refine Go.istore D (pc' := 42) d7_40 rfl (ls' := #[.val (.ref a), .val (.int (0 : Int32)), .val (.int (Int32.ofNat ps.length)), .val (.int key), .val (.int ((Int32.ofNat q) + (1 : Int32))), .val (.int (Int32.ofNat j - 1)), .val (.int (Int32.ofNat q)), .val (.int (ky ps q))]) rfl ?_
          refine Go.goto D (pc' := 63) d7_42 (by decide) (by decide) ?_
          refine Go.goto D (pc' := 8) d7_63 (by decide) (by decide) ?_
          rw [own_succ]
          exact ih (j - (q + 1)) (by omega) (q + 1) j _ _ rfl (by omega) hj (Or.inr ⟨_, rfl, rfl⟩) (Or.inr ⟨_, rfl, rfl⟩) (fun u hu => (Nat.lt_or_eq_of_le (Nat.le_of_lt_succ hu)).elim (fun z => Int32.lt_trans (ky_lt hs z hqp) hc33) (fun z => z ▸ hc33)) hhi
  refine Go.iloadN D (pc' := 1) d7_0 rfl rfl ?_
  refine Go.istore D (pc' := 3) d7_1 rfl (ls' := #[.val (.ref a), .val (.int (0 : Int32)), .val (.int (Int32.ofNat ps.length)), .val (.int key), .val (.int (0 : Int32)), .unset, .unset, .unset]) rfl ?_
  refine Go.iloadN D (pc' := 4) d7_3 rfl rfl ?_
  refine Go.iconst D (pc' := 5) d7_4 rfl (v := (1 : Int32)) rfl ?_
  refine Go.isub D (pc' := 6) d7_5 rfl  ?_
  refine Go.istore D (pc' := 8) d7_6 rfl (ls' := #[.val (.ref a), .val (.int (0 : Int32)), .val (.int (Int32.ofNat ps.length)), .val (.int key), .val (.int (0 : Int32)), .val (.int ((Int32.ofNat ps.length) - (1 : Int32))), .unset, .unset]) rfl ?_
  rw [show (0 : Int32) = Int32.ofNat 0 from rfl]
  exact loop (ps.length - 0) 0 ps.length _ _ rfl (by omega) (by omega) (Or.inl rfl) (Or.inl rfl) (fun u hu => absurd hu (Nat.not_lt_zero u)) (fun u h1 h2 => absurd h2 (by omega))
abbrev y5 : MethodName := ⟨"java/util/Arrays", "binarySearch", "([IIII)I"⟩
theorem d5_0 : decode jdk_65_method_58_code 0 = .ok (.aload_n 0, 1) := by decide +kernel
theorem d5_1 : decode jdk_65_method_58_code 1 = .ok (.arraylength, 1) := by decide +kernel
theorem d5_2 : decode jdk_65_method_58_code 2 = .ok (.iload_n 1, 1) := by decide +kernel
theorem d5_3 : decode jdk_65_method_58_code 3 = .ok (.iload_n 2, 1) := by decide +kernel
theorem d5_4 : decode jdk_65_method_58_code 4 = .ok (.invokestatic 13, 3) := by decide +kernel
theorem d5_7 : decode jdk_65_method_58_code 7 = .ok (.aload_n 0, 1) := by decide +kernel
theorem d5_8 : decode jdk_65_method_58_code 8 = .ok (.iload_n 1, 1) := by decide +kernel
theorem d5_9 : decode jdk_65_method_58_code 9 = .ok (.iload_n 2, 1) := by decide +kernel
theorem d5_10 : decode jdk_65_method_58_code 10 = .ok (.iload_n 3, 1) := by decide +kernel
theorem d5_11 : decode jdk_65_method_58_code 11 = .ok (.invokestatic 209, 3) := by decide +kernel
theorem d5_14 : decode jdk_65_method_58_code 14 = .ok (.ireturn, 1) := by decide +kernel
theorem pd5 : parseMethodDescriptor "([IIII)I" = some ⟨[(.array .int), .int, .int, .int], (some .int)⟩ := by decide +kernel
theorem pn5 : plainFor y5 = true := by first | exact plainFor_of_name (by first | (simp [plainName, overriddenIn]; done) | decide +kernel) | decide +kernel | rfl
set_option maxRecDepth 65536 in
set_option maxHeartbeats 40000000 in
theorem con_bs (l : Launch) (Z : State) (a0 : Array Value) (hw : ∀ d ∈ tables_1, d.before a0 Z = true) (h0 : Heap) (n0 : Nat) (a : Addr) (k : ClassId) (cap : Nat) (ps : List (Int32 × Nat)) (J : List Value) (A : Arv Z h0 a k .int (Int32.ofNat cap) (vc ps ++ J) (.int 0)) (hs : Srt ps) (hl : ps.length ≤ cap) (hc : cap < 1048576) (key : Int32) :
    Con l Z y5 jdk_65_method_58_code 4 ((some .int)) ({ frames := 1, cells := 0, slots := 0, locals := 19 } : Room) [] #[(.ref a), (.int (0 : Int32)), (.int (Int32.ofNat ps.length)), (.int key)] h0 n0 (fun v h => h = h0 ∧ ∃ r, v = some (.int r) ∧ BS ps key r) := by
  refine Con.of_go pn5 (ls := #[.val (.ref a), .val (.int (0 : Int32)), .val (.int (Int32.ofNat ps.length)), .val (.int key)]) (fun m => by first | (simp [entryFrame, mkF, argsToLocals, Value.category]; done) | rfl) ?_
  intro κ D
  refine Go.aloadN D (pc' := 1) d5_0 rfl rfl rfl ?_
  refine Go.alen D (pc' := 2) d5_1 rfl A ?_
  refine Go.iloadN D (pc' := 3) d5_2 rfl rfl ?_
  refine Go.iloadN D (pc' := 4) d5_3 rfl rfl ?_
  refine Go.callS D (argsL := [(.int (Int32.ofNat cap)), (.int (0 : Int32)), (.int (Int32.ofNat ps.length))]) (rest := []) (pc' := 7) (ce' := 0) (sl' := 0) (con_range l Z a0 hw h0 n0 (Int32.ofNat cap) (Int32.ofNat ps.length) (own_nn (by omega)) (fun q => absurd ((own_lt (by omega) (by omega)).mp q) (by omega))) (hw _ (List.mem_of_getElem? (i := 29) rfl)) (hw _ (List.mem_of_getElem? (i := 30) rfl)) (hw _ (List.mem_of_getElem? (i := 27) rfl)) (hw _ (List.mem_of_getElem? (i := 31) rfl)) (by decide) d5_4 rfl pd6 rfl rfl rfl (by decide) (W := 0) rfl (by decide) (by decide) (by decide) (by decide) (by decide) ?_
  intro v4 h1 q4
  obtain ⟨rfl, rfl⟩ := q4
  show Go κ h1 0 0 7 #[.val (.ref a), .val (.int (0 : Int32)), .val (.int (Int32.ofNat ps.length)), .val (.int key)] []
  refine Go.aloadN D (pc' := 8) d5_7 rfl rfl rfl ?_
  refine Go.iloadN D (pc' := 9) d5_8 rfl rfl ?_
  refine Go.iloadN D (pc' := 10) d5_9 rfl rfl ?_
  refine Go.iloadN D (pc' := 11) d5_10 rfl rfl ?_
  refine Go.callS D (argsL := [(.ref a), (.int (0 : Int32)), (.int (Int32.ofNat ps.length)), (.int key)]) (rest := []) (pc' := 14) (ce' := 0) (sl' := 0) (con_bs0 l Z a0 hw h1 n0 a k cap ps J A hs hl hc key) (hw _ (List.mem_of_getElem? (i := 32) rfl)) (hw _ (List.mem_of_getElem? (i := 33) rfl)) (hw _ (List.mem_of_getElem? (i := 27) rfl)) (hw _ (List.mem_of_getElem? (i := 34) rfl)) (by decide) d5_11 rfl pd7 rfl rfl rfl (by decide) (W := 0) rfl (by decide) (by decide) (by decide) (by decide) (by decide) ?_
  intro v11 h2 q11
  obtain ⟨rfl, r, rfl, hr⟩ := q11
  show Go κ h2 0 0 14 #[.val (.ref a), .val (.int (0 : Int32)), .val (.int (Int32.ofNat ps.length)), .val (.int key)] [(.int r)]
  refine Go.iret D rfl d5_14 (by decide) (by decide) ?_
  exact ⟨rfl, r, rfl, hr⟩
theorem own_copy {cap nl : Nat} {vs : List Value} {d : Value} (hv : vs.length = cap) : (List.replicate nl d).take 0 ++ ((List.range cap).map fun i => vs.getD (0 + i) d) ++ (List.replicate nl d).drop (0 + cap) = vs ++ List.replicate (nl - cap) d := by
  subst hv
  have h1 : ((List.range vs.length).map fun i => vs.getD (0 + i) d) = vs := by
    apply List.ext_getElem (by simp)
    intro i h1 h2
    simp [h2]
  rw [h1]; simp
abbrev y8 : MethodName := ⟨"java/util/Arrays", "copyOf", "([II)[I"⟩
theorem d8_0 : decode jdk_65_method_123_code 0 = .ok (.iload_n 1, 1) := by decide +kernel
theorem d8_1 : decode jdk_65_method_123_code 1 = .ok (.aload_n 0, 1) := by decide +kernel
theorem d8_2 : decode jdk_65_method_123_code 2 = .ok (.arraylength, 1) := by decide +kernel
theorem d8_3 : decode jdk_65_method_123_code 3 = .ok (.if_icmp .ne 11, 3) := by decide +kernel
theorem d8_14 : decode jdk_65_method_123_code 14 = .ok (.iload_n 1, 1) := by decide +kernel
theorem d8_15 : decode jdk_65_method_123_code 15 = .ok (.newarray .int, 2) := by decide +kernel
theorem d8_17 : decode jdk_65_method_123_code 17 = .ok (.astore_n 2, 1) := by decide +kernel
theorem d8_18 : decode jdk_65_method_123_code 18 = .ok (.aload_n 0, 1) := by decide +kernel
theorem d8_19 : decode jdk_65_method_123_code 19 = .ok (.iconst 0, 1) := by decide +kernel
theorem d8_20 : decode jdk_65_method_123_code 20 = .ok (.aload_n 2, 1) := by decide +kernel
theorem d8_21 : decode jdk_65_method_123_code 21 = .ok (.iconst 0, 1) := by decide +kernel
theorem d8_22 : decode jdk_65_method_123_code 22 = .ok (.aload_n 0, 1) := by decide +kernel
theorem d8_23 : decode jdk_65_method_123_code 23 = .ok (.arraylength, 1) := by decide +kernel
theorem d8_24 : decode jdk_65_method_123_code 24 = .ok (.iload_n 1, 1) := by decide +kernel
theorem d8_25 : decode jdk_65_method_123_code 25 = .ok (.invokestatic 304, 3) := by decide +kernel
theorem d8_28 : decode jdk_65_method_123_code 28 = .ok (.invokestatic 150, 3) := by decide +kernel
theorem d8_31 : decode jdk_65_method_123_code 31 = .ok (.aload_n 2, 1) := by decide +kernel
theorem d8_32 : decode jdk_65_method_123_code 32 = .ok (.areturn, 1) := by decide +kernel
theorem pd8 : parseMethodDescriptor "([II)[I" = some ⟨[(.array .int), .int], (some (.array .int))⟩ := by decide +kernel
theorem pn8 : plainFor y8 = true := by first | exact plainFor_of_name (by first | (simp [plainName, overriddenIn]; done) | decide +kernel) | decide +kernel | rfl
set_option maxRecDepth 65536 in
set_option maxHeartbeats 40000000 in
theorem con_copy (l : Launch) (Z : State) (a0 : Array Value) (hw : ∀ d ∈ tables_1, d.before a0 Z = true) (h0 : Heap) (n0 : Nat) (Z0 : n0 ≤ h0.size) (a : Addr) (k : ClassId) (cap nl : Nat) (vs : List Value) (V : Arv Z h0 a k .int (Int32.ofNat cap) vs (.int 0)) (hv : vs.length = cap) (h1 : cap < nl) (h2 : nl ≤ 8) :
    Con l Z y8 jdk_65_method_123_code 3 ((some (.array .int))) ({ frames := 1, cells := 1, slots := 8, locals := 64 } : Room) [] #[(.ref a), (.int (Int32.ofNat nl))] h0 n0 (fun v h => ∃ b k', v = some (.ref b) ∧ h0.size ≤ b ∧ Ext h0 h ∧ Arv Z h b k' .int (Int32.ofNat nl) (vs ++ List.replicate (nl - cap) (.int 0)) (.int 0)) := by
  refine Con.of_go pn8 (ls := #[.val (.ref a), .val (.int (Int32.ofNat nl)), .unset]) (fun m => by first | (simp [entryFrame, mkF, argsToLocals, Value.category]; done) | rfl) ?_
  intro κ D
  refine Go.iloadN D (pc' := 1) d8_0 rfl rfl ?_
  refine Go.aloadN D (pc' := 2) d8_1 rfl rfl rfl ?_
  refine Go.alen D (pc' := 3) d8_2 rfl V ?_
  refine Go.icmp D (pc' := 14) (pc2 := 6) d8_3 (by decide) (by decide) rfl ?_ ?_
  · intro (hc3 : ¬ (Int32.ofNat nl) = (Int32.ofNat cap))
    refine Go.iloadN D (pc' := 15) d8_14 rfl rfl ?_
    refine Go.newP D (pc' := 17) (aty := .int) (cap := 8) (ce' := 1) (sl' := 8) (hw _ (List.mem_of_getElem? (i := 13) rfl)) d8_15 rfl (own_nn (by omega)) (by rw [own_tn (by omega)]; omega) (by decide) rfl rfl (by decide) (by decide) ?_
    intro h1 b kb gb E1 B1
    refine Go.astoreN D (pc' := 18) d8_17 rfl rfl (ls' := #[.val (.ref a), .val (.int (Int32.ofNat nl)), .val (.ref b)]) rfl ?_
    refine Go.aloadN D (pc' := 19) d8_18 rfl rfl rfl ?_
    refine Go.iconst D (pc' := 20) d8_19 rfl (v := (0 : Int32)) rfl ?_
    refine Go.aloadN D (pc' := 21) d8_20 rfl rfl rfl ?_
    refine Go.iconst D (pc' := 22) d8_21 rfl (v := (0 : Int32)) rfl ?_
    refine Go.aloadN D (pc' := 23) d8_22 rfl rfl rfl ?_
    refine Go.alen D (pc' := 24) d8_23 rfl (V.ext E1) ?_
    refine Go.iloadN D (pc' := 25) d8_24 rfl rfl ?_
    refine Go.callS D (argsL := [(.int (Int32.ofNat cap)), (.int (Int32.ofNat nl))]) (rest := [(.int (0 : Int32)), (.ref b), (.int (0 : Int32)), (.ref a)]) (pc' := 28) (ce' := 1) (sl' := 8) (con_min l Z a0 hw h1 n0 (Int32.ofNat cap) (Int32.ofNat nl)) (hw _ (List.mem_of_getElem? (i := 44) rfl)) (hw _ (List.mem_of_getElem? (i := 45) rfl)) (hw _ (List.mem_of_getElem? (i := 46) rfl)) (hw _ (List.mem_of_getElem? (i := 47) rfl)) (by decide) d8_25 rfl pd9 rfl rfl rfl (by decide) (W := 4) rfl (by decide) (by decide) (by decide) (by decide) (by decide) ?_
    intro v25 h2 q25
    obtain ⟨rfl, r, rfl, hr⟩ := q25
    obtain rfl : r = Int32.ofNat cap := hr.elim (fun z => absurd ((own_lt (by omega) (by omega)).mp z.1) (by omega)) (fun z => z.2)
    show Go κ h2 1 8 28 #[.val (.ref a), .val (.int (Int32.ofNat nl)), .val (.ref b)] [(.int (Int32.ofNat cap)), (.int (0 : Int32)), (.ref b), (.int (0 : Int32)), (.ref a)]
    refine Go.acopy D (pc' := 31) (sN := 0) (dN := 0) (nN := cap) (hw _ (List.mem_of_getElem? (i := 48) rfl)) (hw _ (List.mem_of_getElem? (i := 38) rfl)) (hw _ (List.mem_of_getElem? (i := 36) rfl)) (hw _ (List.mem_of_getElem? (i := 37) rfl)) d8_28 rfl (V.ext E1) (B1.pad (vs' := List.replicate nl (.int 0)) (fun i => pad_rep [] (.int 0) nl i)) rfl (by decide) (by decide) (own_nn (by omega)) rfl rfl (own_tn (by omega)) (by rw [own_tn (by omega)]; omega) (by rw [own_tn (by omega)]; omega) (by simp; omega) (by omega) rfl (by decide) (W := 0) rfl (by decide) ?_
    intro h3 K3 B3
    refine Go.aloadN D (pc' := 32) d8_31 rfl rfl rfl ?_
    refine Go.aret D rfl rfl rfl d8_32 (by decide) (by decide) ?_
    refine ⟨b, kb, rfl, by omega, E1.keepN K3 (by omega), ?_⟩
    rw [own_copy hv] at B3
    exact B3
  · intro (hc3 : (Int32.ofNat nl) = (Int32.ofNat cap))
    exact absurd (own_inj (by omega) (by omega) hc3) (by omega)
abbrev y2 : MethodName := ⟨"com/example/opaque_cohort/opaquecohort/CodeTally", "<init>", "()V"⟩
theorem d2_0 : decode prog_1_method_1_code 0 = .ok (.aload_n 0, 1) := by decide +kernel
theorem d2_1 : decode prog_1_method_1_code 1 = .ok (.invokespecial 1, 3) := by decide +kernel
theorem d2_4 : decode prog_1_method_1_code 4 = .ok (.aload_n 0, 1) := by decide +kernel
theorem d2_5 : decode prog_1_method_1_code 5 = .ok (.iconst 1, 1) := by decide +kernel
theorem d2_6 : decode prog_1_method_1_code 6 = .ok (.newarray .int, 2) := by decide +kernel
theorem d2_8 : decode prog_1_method_1_code 8 = .ok (.putfield 7, 3) := by decide +kernel
theorem d2_11 : decode prog_1_method_1_code 11 = .ok (.aload_n 0, 1) := by decide +kernel
theorem d2_12 : decode prog_1_method_1_code 12 = .ok (.iconst 1, 1) := by decide +kernel
theorem d2_13 : decode prog_1_method_1_code 13 = .ok (.newarray .int, 2) := by decide +kernel
theorem d2_15 : decode prog_1_method_1_code 15 = .ok (.putfield 13, 3) := by decide +kernel
theorem d2_18 : decode prog_1_method_1_code 18 = .ok (.return_, 1) := by decide +kernel
theorem pd2 : parseMethodDescriptor "()V" = some ⟨[], none⟩ := by decide +kernel
theorem pn2 : plainFor y2 = true := by first | exact plainFor_of_name (by first | (simp [plainName, overriddenIn]; done) | decide +kernel) | decide +kernel | rfl
set_option maxRecDepth 65536 in
set_option maxHeartbeats 40000000 in
theorem con_init (l : Launch) (Z : State) (a0 : Array Value) (hw : ∀ d ∈ tables_1, d.before a0 Z = true) (h0 : Heap) (n0 : Nat) (Z0 : n0 ≤ h0.size) (t : Addr) (g0 : n0 ≤ t) (F : FB Z h0 t .null .null 0 0) :
    Con l Z y2 prog_1_method_1_code 1 none ({ frames := 1, cells := 2, slots := 2, locals := 12 } : Room) [] #[(.ref t)] h0 n0 (fun v h => v = none ∧ Tal Z h n0 t 1 [] 0) := by
  refine Con.of_go pn2 (ls := #[.val (.ref t)]) (fun m => by first | (simp [entryFrame, mkF, argsToLocals, Value.category]; done) | rfl) ?_
  intro κ D
  refine Go.aloadN D (pc' := 1) d2_0 rfl rfl rfl ?_
  refine Go.initO D (pc' := 4) (hw _ (List.mem_of_getElem? (i := 10) rfl)) (hw _ (List.mem_of_getElem? (i := 11) rfl)) (hw _ (List.mem_of_getElem? (i := 12) rfl)) d2_1 rfl rfl (by decide) (W := 0) rfl (by decide) ?_
  refine Go.aloadN D (pc' := 5) d2_4 rfl rfl rfl ?_
  refine Go.iconst D (pc' := 6) d2_5 rfl (v := (1 : Int32)) rfl ?_
  refine Go.newP D (pc' := 8) (aty := .int) (cap := 1) (ce' := 1) (sl' := 1) (hw _ (List.mem_of_getElem? (i := 13) rfl)) d2_6 rfl (by decide) (by decide) (by decide) rfl rfl (by decide) (by decide) ?_
  intro h1 ca ka gca E1 C1
  refine Go.putF D (pc' := 11) (hw _ (List.mem_of_getElem? (i := 14) rfl)) d2_8 rfl (F.ext E1).2.1 (F.ext E1).1 (Or.inl (hw _ (List.mem_of_getElem? (i := 15) rfl))) (hw _ (List.mem_of_getElem? (i := 5) rfl)) (ty := (.array .int)) (by decide) rfl rfl g0 ?_
  intro h2 W2
  refine Go.aloadN D (pc' := 12) d2_11 rfl rfl rfl ?_
  refine Go.iconst D (pc' := 13) d2_12 rfl (v := (1 : Int32)) rfl ?_
  refine Go.newP D (pc' := 15) (aty := .int) (cap := 1) (ce' := 2) (sl' := 2) (hw _ (List.mem_of_getElem? (i := 13) rfl)) d2_13 rfl (by decide) (by decide) (by decide) rfl rfl (by decide) (by decide) ?_
  intro h3 na kb gna E3 N3
  refine Go.putF D (pc' := 18) (hw _ (List.mem_of_getElem? (i := 16) rfl)) d2_15 rfl (((F.ext E1).set_codes hw W2).ext E3).2.2.1 (((F.ext E1).set_codes hw W2).ext E3).1 (Or.inl (hw _ (List.mem_of_getElem? (i := 17) rfl))) (hw _ (List.mem_of_getElem? (i := 5) rfl)) (ty := (.array .int)) (by decide) rfl rfl g0 ?_
  intro h4 W4
  refine Go.vret D rfl d2_18 (by decide) (by decide) ?_
  have q1 := own_ltn F.1.lt
  have q2 := W2.size
  have q3 := E1.1
  have q4 : ca < h1.size := C1.lt
  have nc : ca ≠ t := own_ne (by omega)
  have nn : na ≠ t := own_ne (by omega)
  have ncn : ca ≠ na := own_ne (by omega)
  refine ⟨rfl, ca, na, ka, kb, [.int 0], [.int 0], (((F.ext E1).set_codes hw W2).ext E3).set_counts hw W4, ?_, ?_, rfl, rfl, ncn, nc, nn, g0, by omega, by omega⟩
  · exact ((C1.other W2 nc).ext E3).other W4 nc |>.pad (fun i => pad_rep [] (.int 0) 1 i)
  · exact (N3.other W4 nn).pad (fun i => pad_rep [] (.int 0) 1 i)
abbrev y4 : MethodName := ⟨"com/example/opaque_cohort/opaquecohort/CodeTally", "add", "(I)V"⟩
theorem d4_0 : decode prog_1_method_2_code 0 = .ok (.aload_n 0, 1) := by decide +kernel
theorem d4_1 : decode prog_1_method_2_code 1 = .ok (.getfield 7, 3) := by decide +kernel
theorem d4_4 : decode prog_1_method_2_code 4 = .ok (.iconst 0, 1) := by decide +kernel
theorem d4_5 : decode prog_1_method_2_code 5 = .ok (.aload_n 0, 1) := by decide +kernel
theorem d4_6 : decode prog_1_method_2_code 6 = .ok (.getfield 16, 3) := by decide +kernel
theorem d4_9 : decode prog_1_method_2_code 9 = .ok (.iload_n 1, 1) := by decide +kernel
theorem d4_10 : decode prog_1_method_2_code 10 = .ok (.invokestatic 20, 3) := by decide +kernel
theorem d4_13 : decode prog_1_method_2_code 13 = .ok (.istore_n 2, 1) := by decide +kernel
theorem d4_14 : decode prog_1_method_2_code 14 = .ok (.iload_n 2, 1) := by decide +kernel
theorem d4_15 : decode prog_1_method_2_code 15 = .ok (.ifCond .lt 16, 3) := by decide +kernel
theorem d4_18 : decode prog_1_method_2_code 18 = .ok (.aload_n 0, 1) := by decide +kernel
theorem d4_19 : decode prog_1_method_2_code 19 = .ok (.getfield 13, 3) := by decide +kernel
theorem d4_22 : decode prog_1_method_2_code 22 = .ok (.iload_n 2, 1) := by decide +kernel
theorem d4_23 : decode prog_1_method_2_code 23 = .ok (.dup2, 1) := by decide +kernel
theorem d4_24 : decode prog_1_method_2_code 24 = .ok (.iaload, 1) := by decide +kernel
theorem d4_25 : decode prog_1_method_2_code 25 = .ok (.iconst 1, 1) := by decide +kernel
theorem d4_26 : decode prog_1_method_2_code 26 = .ok (.iadd, 1) := by decide +kernel
theorem d4_27 : decode prog_1_method_2_code 27 = .ok (.iastore, 1) := by decide +kernel
theorem d4_28 : decode prog_1_method_2_code 28 = .ok (.goto 138, 3) := by decide +kernel
theorem d4_31 : decode prog_1_method_2_code 31 = .ok (.iload_n 2, 1) := by decide +kernel
theorem d4_32 : decode prog_1_method_2_code 32 = .ok (.ineg, 1) := by decide +kernel
theorem d4_33 : decode prog_1_method_2_code 33 = .ok (.iconst 1, 1) := by decide +kernel
theorem d4_34 : decode prog_1_method_2_code 34 = .ok (.isub, 1) := by decide +kernel
theorem d4_35 : decode prog_1_method_2_code 35 = .ok (.istore_n 3, 1) := by decide +kernel
theorem d4_36 : decode prog_1_method_2_code 36 = .ok (.aload_n 0, 1) := by decide +kernel
theorem d4_37 : decode prog_1_method_2_code 37 = .ok (.getfield 16, 3) := by decide +kernel
theorem d4_40 : decode prog_1_method_2_code 40 = .ok (.aload_n 0, 1) := by decide +kernel
theorem d4_41 : decode prog_1_method_2_code 41 = .ok (.getfield 7, 3) := by decide +kernel
theorem d4_44 : decode prog_1_method_2_code 44 = .ok (.arraylength, 1) := by decide +kernel
theorem d4_45 : decode prog_1_method_2_code 45 = .ok (.if_icmp .ne 37, 3) := by decide +kernel
theorem d4_48 : decode prog_1_method_2_code 48 = .ok (.aload_n 0, 1) := by decide +kernel
theorem d4_49 : decode prog_1_method_2_code 49 = .ok (.aload_n 0, 1) := by decide +kernel
theorem d4_50 : decode prog_1_method_2_code 50 = .ok (.getfield 7, 3) := by decide +kernel
theorem d4_53 : decode prog_1_method_2_code 53 = .ok (.iconst 2, 1) := by decide +kernel
theorem d4_54 : decode prog_1_method_2_code 54 = .ok (.aload_n 0, 1) := by decide +kernel
theorem d4_55 : decode prog_1_method_2_code 55 = .ok (.getfield 16, 3) := by decide +kernel
theorem d4_58 : decode prog_1_method_2_code 58 = .ok (.imul, 1) := by decide +kernel
theorem d4_59 : decode prog_1_method_2_code 59 = .ok (.invokestatic 26, 3) := by decide +kernel
theorem d4_62 : decode prog_1_method_2_code 62 = .ok (.putfield 7, 3) := by decide +kernel
theorem d4_65 : decode prog_1_method_2_code 65 = .ok (.aload_n 0, 1) := by decide +kernel
theorem d4_66 : decode prog_1_method_2_code 66 = .ok (.aload_n 0, 1) := by decide +kernel
theorem d4_67 : decode prog_1_method_2_code 67 = .ok (.getfield 13, 3) := by decide +kernel
theorem d4_70 : decode prog_1_method_2_code 70 = .ok (.iconst 2, 1) := by decide +kernel
theorem d4_71 : decode prog_1_method_2_code 71 = .ok (.aload_n 0, 1) := by decide +kernel
theorem d4_72 : decode prog_1_method_2_code 72 = .ok (.getfield 16, 3) := by decide +kernel
theorem d4_75 : decode prog_1_method_2_code 75 = .ok (.imul, 1) := by decide +kernel
theorem d4_76 : decode prog_1_method_2_code 76 = .ok (.invokestatic 26, 3) := by decide +kernel
theorem d4_79 : decode prog_1_method_2_code 79 = .ok (.putfield 13, 3) := by decide +kernel
theorem d4_82 : decode prog_1_method_2_code 82 = .ok (.aload_n 0, 1) := by decide +kernel
theorem d4_83 : decode prog_1_method_2_code 83 = .ok (.getfield 7, 3) := by decide +kernel
theorem d4_86 : decode prog_1_method_2_code 86 = .ok (.iload_n 3, 1) := by decide +kernel
theorem d4_87 : decode prog_1_method_2_code 87 = .ok (.aload_n 0, 1) := by decide +kernel
theorem d4_88 : decode prog_1_method_2_code 88 = .ok (.getfield 7, 3) := by decide +kernel
theorem d4_91 : decode prog_1_method_2_code 91 = .ok (.iload_n 3, 1) := by decide +kernel
theorem d4_92 : decode prog_1_method_2_code 92 = .ok (.iconst 1, 1) := by decide +kernel
theorem d4_93 : decode prog_1_method_2_code 93 = .ok (.iadd, 1) := by decide +kernel
theorem d4_94 : decode prog_1_method_2_code 94 = .ok (.aload_n 0, 1) := by decide +kernel
theorem d4_95 : decode prog_1_method_2_code 95 = .ok (.getfield 16, 3) := by decide +kernel
theorem d4_98 : decode prog_1_method_2_code 98 = .ok (.iload_n 3, 1) := by decide +kernel
theorem d4_99 : decode prog_1_method_2_code 99 = .ok (.isub, 1) := by decide +kernel
theorem d4_100 : decode prog_1_method_2_code 100 = .ok (.invokestatic 30, 3) := by decide +kernel
theorem d4_103 : decode prog_1_method_2_code 103 = .ok (.aload_n 0, 1) := by decide +kernel
theorem d4_104 : decode prog_1_method_2_code 104 = .ok (.getfield 13, 3) := by decide +kernel
theorem d4_107 : decode prog_1_method_2_code 107 = .ok (.iload_n 3, 1) := by decide +kernel
theorem d4_108 : decode prog_1_method_2_code 108 = .ok (.aload_n 0, 1) := by decide +kernel
theorem d4_109 : decode prog_1_method_2_code 109 = .ok (.getfield 13, 3) := by decide +kernel
theorem d4_112 : decode prog_1_method_2_code 112 = .ok (.iload_n 3, 1) := by decide +kernel
theorem d4_113 : decode prog_1_method_2_code 113 = .ok (.iconst 1, 1) := by decide +kernel
theorem d4_114 : decode prog_1_method_2_code 114 = .ok (.iadd, 1) := by decide +kernel
theorem d4_115 : decode prog_1_method_2_code 115 = .ok (.aload_n 0, 1) := by decide +kernel
theorem d4_116 : decode prog_1_method_2_code 116 = .ok (.getfield 16, 3) := by decide +kernel
theorem d4_119 : decode prog_1_method_2_code 119 = .ok (.iload_n 3, 1) := by decide +kernel
theorem d4_120 : decode prog_1_method_2_code 120 = .ok (.isub, 1) := by decide +kernel
theorem d4_121 : decode prog_1_method_2_code 121 = .ok (.invokestatic 30, 3) := by decide +kernel
theorem d4_124 : decode prog_1_method_2_code 124 = .ok (.aload_n 0, 1) := by decide +kernel
theorem d4_125 : decode prog_1_method_2_code 125 = .ok (.getfield 7, 3) := by decide +kernel
theorem d4_128 : decode prog_1_method_2_code 128 = .ok (.iload_n 3, 1) := by decide +kernel
theorem d4_129 : decode prog_1_method_2_code 129 = .ok (.iload_n 1, 1) := by decide +kernel
theorem d4_130 : decode prog_1_method_2_code 130 = .ok (.iastore, 1) := by decide +kernel
theorem d4_131 : decode prog_1_method_2_code 131 = .ok (.aload_n 0, 1) := by decide +kernel
theorem d4_132 : decode prog_1_method_2_code 132 = .ok (.getfield 13, 3) := by decide +kernel
theorem d4_135 : decode prog_1_method_2_code 135 = .ok (.iload_n 3, 1) := by decide +kernel
theorem d4_136 : decode prog_1_method_2_code 136 = .ok (.iconst 1, 1) := by decide +kernel
theorem d4_137 : decode prog_1_method_2_code 137 = .ok (.iastore, 1) := by decide +kernel
theorem d4_138 : decode prog_1_method_2_code 138 = .ok (.aload_n 0, 1) := by decide +kernel
theorem d4_139 : decode prog_1_method_2_code 139 = .ok (.dup, 1) := by decide +kernel
theorem d4_140 : decode prog_1_method_2_code 140 = .ok (.getfield 16, 3) := by decide +kernel
theorem d4_143 : decode prog_1_method_2_code 143 = .ok (.iconst 1, 1) := by decide +kernel
theorem d4_144 : decode prog_1_method_2_code 144 = .ok (.iadd, 1) := by decide +kernel
theorem d4_145 : decode prog_1_method_2_code 145 = .ok (.putfield 16, 3) := by decide +kernel
theorem d4_148 : decode prog_1_method_2_code 148 = .ok (.iload_n 1, 1) := by decide +kernel
theorem d4_149 : decode prog_1_method_2_code 149 = .ok (.bipush 64, 2) := by decide +kernel
theorem d4_151 : decode prog_1_method_2_code 151 = .ok (.if_icmp .ge 15, 3) := by decide +kernel
theorem d4_154 : decode prog_1_method_2_code 154 = .ok (.aload_n 0, 1) := by decide +kernel
theorem d4_155 : decode prog_1_method_2_code 155 = .ok (.dup, 1) := by decide +kernel
theorem d4_156 : decode prog_1_method_2_code 156 = .ok (.getfield 38, 3) := by decide +kernel
theorem d4_159 : decode prog_1_method_2_code 159 = .ok (.lconst 1, 1) := by decide +kernel
theorem d4_160 : decode prog_1_method_2_code 160 = .ok (.iload_n 1, 1) := by decide +kernel
theorem d4_161 : decode prog_1_method_2_code 161 = .ok (.lshl, 1) := by decide +kernel
theorem d4_162 : decode prog_1_method_2_code 162 = .ok (.lor, 1) := by decide +kernel
theorem d4_163 : decode prog_1_method_2_code 163 = .ok (.putfield 38, 3) := by decide +kernel
theorem d4_166 : decode prog_1_method_2_code 166 = .ok (.return_, 1) := by decide +kernel
theorem pd4 : parseMethodDescriptor "(I)V" = some ⟨[.int], none⟩ := by decide +kernel
theorem pn4 : plainFor y4 = true := by first | exact plainFor_of_name (by first | (simp [plainName, overriddenIn]; done) | decide +kernel) | decide +kernel | rfl
set_option maxRecDepth 65536 in
set_option maxHeartbeats 40000000 in
theorem con_add (l : Launch) (Z : State) (a0 : Array Value) (hw : ∀ d ∈ tables_1, d.before a0 Z = true) (h0 : Heap) (n0 : Nat) (Z0 : n0 ≤ h0.size) (t : Addr) (a : Int32) (cap N : Nat) (ps : List (Int32 × Nat)) (fc : Int64) (T : Tal Z h0 n0 t cap ps fc) (hs : Srt ps) (hc : Cts N ps) (hN : N ≤ 3) (hcap : cap ≤ 2 * N + 1) (hcap0 : 0 < cap) :
    Con l Z y4 prog_1_method_2_code 4 none ({ frames := 2, cells := 2, slots := 16, locals := 100 } : Room) [] #[(.ref t), (.int a)] h0 n0 (fun v h => v = none ∧ ∃ cap' ps' fc', Tal Z h n0 t cap' ps' fc' ∧ Srt ps' ∧ Cts (N + 1) ps' ∧ (∀ x, cnt ps' x = cnt ps x + if a = x then 1 else 0) ∧ (0 < cap' ∧ cap' ≤ 2 * (N + 1) + 1) ∧ FcA (cnt ps a) a fc fc') := by
  refine Con.of_go pn4 (ls := #[.val (.ref t), .val (.int a), .unset, .unset]) (fun m => by first | (simp [entryFrame, mkF, argsToLocals, Value.category]; done) | rfl) ?_
  intro κ D
  obtain ⟨ca, na, ka, kb, jc, jn, F, Ac, An, hjc, hjn, ncn, nc, nn, gt, gc, gn⟩ := T
  have hlen := hc.1
  refine Go.aloadN D (pc' := 1) d4_0 rfl rfl rfl ?_
  refine Go.getF D (pc' := 4) (hw _ (List.mem_of_getElem? (i := 14) rfl)) d4_1 rfl F.2.1 ?_
  refine Go.iconst D (pc' := 5) d4_4 rfl (v := (0 : Int32)) rfl ?_
  refine Go.aloadN D (pc' := 6) d4_5 rfl rfl rfl ?_
  refine Go.getF D (pc' := 9) (hw _ (List.mem_of_getElem? (i := 23) rfl)) d4_6 rfl F.2.2.2.1 ?_
  refine Go.iloadN D (pc' := 10) d4_9 rfl rfl ?_
  refine Go.callS D (argsL := [(.ref ca), (.int (0 : Int32)), (.int (Int32.ofNat ps.length)), (.int a)]) (rest := []) (pc' := 13) (ce' := 0) (sl' := 0) (con_bs l Z a0 hw h0 n0 ca ka cap ps jc Ac hs (by omega) (by omega) a) (hw _ (List.mem_of_getElem? (i := 25) rfl)) (hw _ (List.mem_of_getElem? (i := 26) rfl)) (hw _ (List.mem_of_getElem? (i := 27) rfl)) (hw _ (List.mem_of_getElem? (i := 28) rfl)) (by decide) d4_10 rfl pd5 rfl rfl rfl (by decide) (W := 0) rfl (by decide) (by decide) (by decide) (by decide) (by decide) ?_
  intro v10 h1 q10
  obtain ⟨rfl, r, rfl, hr⟩ := q10
  show Go κ h1 0 0 13 #[.val (.ref t), .val (.int a), .unset, .unset] [(.int r)]
  rcases hr with ⟨A, n, B, rfl, rfl⟩ | hr0
  · skip
    have hA : A.length < cap := by simp at hjc; omega
    refine Go.istoreN D (pc' := 14) d4_13 rfl (ls' := #[.val (.ref t), .val (.int a), .val (.int (Int32.ofNat A.length)), .unset]) rfl ?_
    refine Go.iloadN D (pc' := 15) d4_14 rfl rfl ?_
    refine Go.ifc D (pc' := 31) (pc2 := 18) d4_15 (by decide) (by decide) rfl ?_ ?_
    · intro (hc15 : (Int32.ofNat A.length) < 0)
      exact absurd hc15 (own_nn (by omega))
    · intro (hc15 : ¬ (Int32.ofNat A.length) < 0)
      refine Go.aloadN D (pc' := 19) d4_18 rfl rfl rfl ?_
      refine Go.getF D (pc' := 22) (hw _ (List.mem_of_getElem? (i := 16) rfl)) d4_19 rfl F.2.2.1 ?_
      refine Go.iloadN D (pc' := 23) d4_22 rfl rfl ?_
      refine Go.dup2 D (pc' := 24) d4_23 rfl rfl rfl ?_
      refine Go.iaload D (pc' := 25) d4_24 rfl An (own_nn (by omega)) ((own_lt (by omega) (by omega)).mpr hA) (v := .int (Int32.ofNat n)) (by rw [own_tn (by omega)]; exact vn_at) ?_
      refine Go.iconst D (pc' := 26) d4_25 rfl (v := (1 : Int32)) rfl ?_
      refine Go.iadd D (pc' := 27) d4_26 rfl  ?_
      refine Go.iastore D (pc' := 28) (i := A.length) d4_27 rfl An (own_nn (by omega)) ((own_lt (by omega) (by omega)).mpr hA) (own_tn (by omega)) (by simp [vn] <;> omega) gn  ?_
      intro h2 K2 N2
      refine Go.goto D (pc' := 166) d4_28 (by decide) (by decide) ?_
      refine Go.vret D rfl d4_166 (by decide) (by decide) ?_
      have hn := hc.2 (a, n) (by simp)
      refine ⟨rfl, cap, A ++ (a, n + 1) :: B, fc, ⟨ca, na, ka, kb, jc, jn, ?_, ?_, ?_, ?_, ?_, ncn, nc, nn, gt, gc, gn⟩, set_srt hs, ?_, ?_, ?_, ?_⟩
      · have F2 := F.keep K2 (nin1 (Ne.symm nn))
        simpa using F2
      · have C2 := Ac.keep K2 (nin1 ncn)
        simpa [vc] using C2
      · rw [own_succ] at N2
        simpa [vn] using N2
      · simpa using hjc
      · simpa using hjn
      · refine ⟨by simp at hlen ⊢; omega, fun p hp => ?_⟩
        rcases List.mem_append.mp hp with hp | hp
        · have := hc.2 p (by simp [hp]); omega
        · rcases List.mem_cons.mp hp with rfl | hp
          · dsimp only at hn ⊢; omega
          · have := hc.2 p (by simp [hp]); omega
      · intro x
        simp only [cnt_app, cnt]
        split <;> omega
      · exact ⟨hcap0, by omega⟩
      · exact Or.inl ⟨by simp only [cnt_app, cnt, if_true]; omega, rfl⟩
  · skip
    have hz := bs_cnt hr0
    obtain ⟨A, B, rfl, hA, hB, rfl⟩ := hr0
    have hAB : (A ++ B).length - A.length = B.length := by simp
    have hAB2 : (A ++ B).length = A.length + B.length := by simp
    have J82 : ∀ (h2 : Heap) (cb nb : Addr) (ka' kb' : ClassId) (jc' jn' : List Value) (cap' : Nat), FB Z h2 t (.ref cb) (.ref nb) (Int32.ofNat (A ++ B).length) fc → Arv Z h2 cb ka' .int (Int32.ofNat cap') (vc (A ++ B) ++ jc') (.int 0) → Arv Z h2 nb kb' .int (Int32.ofNat cap') (vn (A ++ B) ++ jn') (.int 0) → (A ++ B).length + jc'.length = cap' → (A ++ B).length + jn'.length = cap' → cb ≠ nb → cb ≠ t → nb ≠ t → n0 ≤ cb → n0 ≤ nb → (A ++ B).length < cap' → cap' ≤ 2 * (N + 1) + 1 → Go κ h2 2 16 82 #[.val (.ref t), .val (.int a), .val (.int (-(Int32.ofNat A.length + (1 : Int32)))), .val (.int (Int32.ofNat A.length))] [] := by
      intro h2 cb nb ka' kb' jc' jn' cap' F2 C2 N2 hj1 hj2 ncnb ncb nnb gcb gnb hlt hcap'
      obtain ⟨j1, J1, ej1⟩ : ∃ j J, jc' = j :: J := by
        cases jc' with
        | nil => simp at hj1; simp at hlt; omega
        | cons j J => exact ⟨j, J, rfl⟩
      obtain ⟨j2, J2, ej2⟩ : ∃ j J, jn' = j :: J := by
        cases jn' with
        | nil => simp at hj2; simp at hlt; omega
        | cons j J => exact ⟨j, J, rfl⟩
      subst ej1
      subst ej2
      refine Go.aloadN D (pc' := 83) d4_82 rfl rfl rfl ?_
      refine Go.getF D (pc' := 86) (hw _ (List.mem_of_getElem? (i := 14) rfl)) d4_83 rfl F2.2.1 ?_
      refine Go.iloadN D (pc' := 87) d4_86 rfl rfl ?_
      refine Go.aloadN D (pc' := 88) d4_87 rfl rfl rfl ?_
      refine Go.getF D (pc' := 91) (hw _ (List.mem_of_getElem? (i := 14) rfl)) d4_88 rfl F2.2.1 ?_
      refine Go.iloadN D (pc' := 92) d4_91 rfl rfl ?_
      refine Go.iconst D (pc' := 93) d4_92 rfl (v := (1 : Int32)) rfl ?_
      refine Go.iadd D (pc' := 94) d4_93 rfl  ?_
      refine Go.aloadN D (pc' := 95) d4_94 rfl rfl rfl ?_
      refine Go.getF D (pc' := 98) (hw _ (List.mem_of_getElem? (i := 23) rfl)) d4_95 rfl F2.2.2.2.1 ?_
      refine Go.iloadN D (pc' := 99) d4_98 rfl rfl ?_
      refine Go.isub D (pc' := 100) d4_99 rfl  ?_
      rw [own_succ, own_sub (by omega) (by omega), hAB]
      refine Go.acopy D (pc' := 103) (sN := A.length) (dN := (A.length + 1)) (nN := B.length) (hw _ (List.mem_of_getElem? (i := 35) rfl)) (hw _ (List.mem_of_getElem? (i := 38) rfl)) (hw _ (List.mem_of_getElem? (i := 36) rfl)) (hw _ (List.mem_of_getElem? (i := 37) rfl)) d4_100 rfl C2 C2 rfl (own_nn (by omega)) (own_nn (by omega)) (own_nn (by omega)) (own_tn (by omega)) (own_tn (by omega)) (own_tn (by omega)) (by rw [own_tn (by omega)]; omega) (by rw [own_tn (by omega)]; omega) (by simp [vc, vn] <;> omega) gcb rfl (by decide) (W := 0) rfl (by decide) ?_
      intro h3 K3 C3
      refine Go.aloadN D (pc' := 104) d4_103 rfl rfl rfl ?_
      refine Go.getF D (pc' := 107) (hw _ (List.mem_of_getElem? (i := 16) rfl)) d4_104 rfl (F2.keep K3 (nin1 (Ne.symm ncb))).2.2.1 ?_
      refine Go.iloadN D (pc' := 108) d4_107 rfl rfl ?_
      refine Go.aloadN D (pc' := 109) d4_108 rfl rfl rfl ?_
      refine Go.getF D (pc' := 112) (hw _ (List.mem_of_getElem? (i := 16) rfl)) d4_109 rfl (F2.keep K3 (nin1 (Ne.symm ncb))).2.2.1 ?_
      refine Go.iloadN D (pc' := 113) d4_112 rfl rfl ?_
      refine Go.iconst D (pc' := 114) d4_113 rfl (v := (1 : Int32)) rfl ?_
      refine Go.iadd D (pc' := 115) d4_114 rfl  ?_
      refine Go.aloadN D (pc' := 116) d4_115 rfl rfl rfl ?_
      refine Go.getF D (pc' := 119) (hw _ (List.mem_of_getElem? (i := 23) rfl)) d4_116 rfl (F2.keep K3 (nin1 (Ne.symm ncb))).2.2.2.1 ?_
      refine Go.iloadN D (pc' := 120) d4_119 rfl rfl ?_
      refine Go.isub D (pc' := 121) d4_120 rfl  ?_
      rw [own_succ, own_sub (by omega) (by omega), hAB]
      refine Go.acopy D (pc' := 124) (sN := A.length) (dN := (A.length + 1)) (nN := B.length) (hw _ (List.mem_of_getElem? (i := 35) rfl)) (hw _ (List.mem_of_getElem? (i := 38) rfl)) (hw _ (List.mem_of_getElem? (i := 36) rfl)) (hw _ (List.mem_of_getElem? (i := 37) rfl)) d4_121 rfl (N2.keep K3 (nin1 (Ne.symm ncnb))) (N2.keep K3 (nin1 (Ne.symm ncnb))) rfl (own_nn (by omega)) (own_nn (by omega)) (own_nn (by omega)) (own_tn (by omega)) (own_tn (by omega)) (own_tn (by omega)) (by rw [own_tn (by omega)]; omega) (by rw [own_tn (by omega)]; omega) (by simp [vc, vn] <;> omega) gnb rfl (by decide) (W := 0) rfl (by decide) ?_
      intro h4 K4 N4
      have F4 := (F2.keep K3 (nin1 (Ne.symm ncb))).keep K4 (nin1 (Ne.symm nnb))
      have C4 := C3.keep K4 (nin1 ncnb)
      refine Go.aloadN D (pc' := 125) d4_124 rfl rfl rfl ?_
      refine Go.getF D (pc' := 128) (hw _ (List.mem_of_getElem? (i := 14) rfl)) d4_125 rfl F4.2.1 ?_
      refine Go.iloadN D (pc' := 129) d4_128 rfl rfl ?_
      refine Go.iloadN D (pc' := 130) d4_129 rfl rfl ?_
      refine Go.iastore D (pc' := 131) (i := A.length) d4_130 rfl C4 (own_nn (by omega)) ((own_lt (by omega) (by omega)).mpr (by omega)) (own_tn (by omega)) (by simp [vc] <;> omega) gcb  ?_
      intro h5 K5 C5
      refine Go.aloadN D (pc' := 132) d4_131 rfl rfl rfl ?_
      refine Go.getF D (pc' := 135) (hw _ (List.mem_of_getElem? (i := 16) rfl)) d4_132 rfl (F4.keep K5 (nin1 (Ne.symm ncb))).2.2.1 ?_
      refine Go.iloadN D (pc' := 136) d4_135 rfl rfl ?_
      refine Go.iconst D (pc' := 137) d4_136 rfl (v := (1 : Int32)) rfl ?_
      refine Go.iastore D (pc' := 138) (i := A.length) d4_137 rfl (N4.keep K5 (nin1 (Ne.symm ncnb))) (own_nn (by omega)) ((own_lt (by omega) (by omega)).mpr (by omega)) (own_tn (by omega)) (by simp [vn] <;> omega) gnb  ?_
      intro h6 K6 N6
      have F6 := (F4.keep K5 (nin1 (Ne.symm ncb))).keep K6 (nin1 (Ne.symm nnb))
      have C6 := C5.keep K6 (nin1 ncnb)
      refine Go.aloadN D (pc' := 139) d4_138 rfl rfl rfl ?_
      refine Go.dup D (pc' := 140) d4_139 rfl rfl ?_
      refine Go.getF D (pc' := 143) (hw _ (List.mem_of_getElem? (i := 23) rfl)) d4_140 rfl F6.2.2.2.1 ?_
      refine Go.iconst D (pc' := 144) d4_143 rfl (v := (1 : Int32)) rfl ?_
      refine Go.iadd D (pc' := 145) d4_144 rfl  ?_
      rw [own_succ]
      refine Go.putF D (pc' := 148) (hw _ (List.mem_of_getElem? (i := 23) rfl)) d4_145 rfl F6.2.2.2.1 F6.1 (Or.inl (hw _ (List.mem_of_getElem? (i := 24) rfl))) (hw _ (List.mem_of_getElem? (i := 5) rfl)) (ty := .int) (by decide) rfl rfl gt ?_
      intro h7 W7
      have F7 := F6.set_distinct hw W7
      have C7 := C6.other W7 ncb
      have N7 := N6.other W7 nnb
      simp only [vc, vn, List.map_append] at C7 N7
      have C8 : Arv Z h7 cb ka' .int (Int32.ofNat cap') (vc (A ++ (a, 1) :: B) ++ J1) (.int 0) := by
        have e := ins_list (A := A.map fun p => Value.int p.1) (B := B.map fun p => Value.int p.1) (j := j1) (J := J1) (dv := .int 0) (c := .int a)
        simp only [List.length_map] at e
        rw [e] at C7
        simpa [vc] using C7
      have N8 : Arv Z h7 nb kb' .int (Int32.ofNat cap') (vn (A ++ (a, 1) :: B) ++ J2) (.int 0) := by
        have e := ins_list (A := A.map fun p => Value.int (Int32.ofNat p.2)) (B := B.map fun p => Value.int (Int32.ofNat p.2)) (j := j2) (J := J2) (dv := .int 0) (c := .int 1)
        simp only [List.length_map] at e
        rw [e] at N7
        simpa [vn] using N7
      refine Go.iloadN D (pc' := 149) d4_148 rfl rfl ?_
      refine Go.bipush D (pc' := 151) d4_149 rfl (v := (64 : Int32)) rfl ?_
      refine Go.icmp D (pc' := 166) (pc2 := 154) d4_151 (by decide) (by decide) rfl ?_ ?_
      · intro (hc151 : ¬ a < (64 : Int32))
        refine Go.vret D rfl d4_166 (by decide) (by decide) ?_
        refine ⟨rfl, cap', A ++ (a, 1) :: B, _, ⟨cb, nb, ka', kb', J1, J2, ?_, C8, N8, ?_, ?_, ncnb, ncb, nnb, gt, gcb, gnb⟩, ins_srt hs hA hB, ?_, ?_, ⟨by omega, hcap'⟩, Or.inr ⟨hz, Or.inl ⟨hc151, rfl⟩⟩⟩
        · have e : (A ++ (a, 1) :: B).length = (A ++ B).length + 1 := by simp <;> omega
          rw [e]; exact F7
        · simp at hj1 ⊢; omega
        · simp at hj2 ⊢; omega
        · refine ⟨by simp at hlen ⊢; omega, fun p hp => ?_⟩
          rcases List.mem_append.mp hp with hp | hp
          · have := hc.2 p (by simp [hp]); omega
          · rcases List.mem_cons.mp hp with rfl | hp
            · dsimp only; omega
            · have := hc.2 p (by simp [hp]); omega
        · intro x
          simp only [cnt_app, cnt]
          split <;> omega
      · intro (hc151 : a < (64 : Int32))
        refine Go.aloadN D (pc' := 155) d4_154 rfl rfl rfl ?_
        refine Go.dup D (pc' := 156) d4_155 rfl rfl ?_
        refine Go.getF D (pc' := 159) (hw _ (List.mem_of_getElem? (i := 39) rfl)) d4_156 rfl F7.2.2.2.2 ?_
        refine Go.lconst D (pc' := 160) d4_159 rfl (v := (1 : Int64)) rfl ?_
        refine Go.iloadN D (pc' := 161) d4_160 rfl rfl ?_
        refine Go.lshl D (pc' := 162) d4_161 rfl  ?_
        refine Go.lor D (pc' := 163) d4_162 rfl  ?_
        refine Go.putF D (pc' := 166) (hw _ (List.mem_of_getElem? (i := 39) rfl)) d4_163 rfl F7.2.2.2.2 F7.1 (Or.inl (hw _ (List.mem_of_getElem? (i := 40) rfl))) (hw _ (List.mem_of_getElem? (i := 5) rfl)) (ty := .long) (by decide) rfl rfl gt ?_
        intro h8 W8
        refine Go.vret D rfl d4_166 (by decide) (by decide) ?_
        refine ⟨rfl, cap', A ++ (a, 1) :: B, _, ⟨cb, nb, ka', kb', J1, J2, ?_, (C8.other W8 ncb), (N8.other W8 nnb), ?_, ?_, ncnb, ncb, nnb, gt, gcb, gnb⟩, ins_srt hs hA hB, ?_, ?_, ⟨by omega, hcap'⟩, Or.inr ⟨hz, Or.inr ⟨hc151, rfl⟩⟩⟩
        · have e : (A ++ (a, 1) :: B).length = (A ++ B).length + 1 := by simp <;> omega
          rw [e]; exact (F7.set_firstCodes hw W8)
        · simp at hj1 ⊢; omega
        · simp at hj2 ⊢; omega
        · refine ⟨by simp at hlen ⊢; omega, fun p hp => ?_⟩
          rcases List.mem_append.mp hp with hp | hp
          · have := hc.2 p (by simp [hp]); omega
          · rcases List.mem_cons.mp hp with rfl | hp
            · dsimp only; omega
            · have := hc.2 p (by simp [hp]); omega
        · intro x
          simp only [cnt_app, cnt]
          split <;> omega
    refine Go.istoreN D (pc' := 14) d4_13 rfl (ls' := #[.val (.ref t), .val (.int a), .val (.int (-(Int32.ofNat A.length + (1 : Int32)))), .unset]) rfl ?_
    refine Go.iloadN D (pc' := 15) d4_14 rfl rfl ?_
    refine Go.ifc D (pc' := 31) (pc2 := 18) d4_15 (by decide) (by decide) rfl ?_ ?_
    · intro (hc15 : (-(Int32.ofNat A.length + (1 : Int32))) < 0)
      refine Go.iloadN D (pc' := 32) d4_31 rfl rfl ?_
      refine Go.ineg D (pc' := 33) d4_32 rfl  ?_
      refine Go.iconst D (pc' := 34) d4_33 rfl (v := (1 : Int32)) rfl ?_
      refine Go.isub D (pc' := 35) d4_34 rfl  ?_
      rw [own_undo]
      refine Go.istoreN D (pc' := 36) d4_35 rfl (ls' := #[.val (.ref t), .val (.int a), .val (.int (-(Int32.ofNat A.length + (1 : Int32)))), .val (.int (Int32.ofNat A.length))]) rfl ?_
      refine Go.aloadN D (pc' := 37) d4_36 rfl rfl rfl ?_
      refine Go.getF D (pc' := 40) (hw _ (List.mem_of_getElem? (i := 23) rfl)) d4_37 rfl F.2.2.2.1 ?_
      refine Go.aloadN D (pc' := 41) d4_40 rfl rfl rfl ?_
      refine Go.getF D (pc' := 44) (hw _ (List.mem_of_getElem? (i := 14) rfl)) d4_41 rfl F.2.1 ?_
      refine Go.alen D (pc' := 45) d4_44 rfl Ac ?_
      refine Go.icmp D (pc' := 82) (pc2 := 48) d4_45 (by decide) (by decide) rfl ?_ ?_
      · intro (hc45 : ¬ (Int32.ofNat (A ++ B).length) = (Int32.ofNat cap))
        refine Go.up (by decide : 0 ≤ 2) (by decide : 0 ≤ 16) ?_
        have hne : (A ++ B).length ≠ cap := fun q => hc45 (by rw [q])
        exact J82 h1 ca na ka kb jc jn cap F Ac An hjc hjn ncn nc nn gc gn (by omega) (by omega)
      · intro (hc45 : (Int32.ofNat (A ++ B).length) = (Int32.ofNat cap))
        refine Go.aloadN D (pc' := 49) d4_48 rfl rfl rfl ?_
        refine Go.aloadN D (pc' := 50) d4_49 rfl rfl rfl ?_
        refine Go.getF D (pc' := 53) (hw _ (List.mem_of_getElem? (i := 14) rfl)) d4_50 rfl F.2.1 ?_
        refine Go.iconst D (pc' := 54) d4_53 rfl (v := (2 : Int32)) rfl ?_
        refine Go.aloadN D (pc' := 55) d4_54 rfl rfl rfl ?_
        refine Go.getF D (pc' := 58) (hw _ (List.mem_of_getElem? (i := 23) rfl)) d4_55 rfl F.2.2.2.1 ?_
        refine Go.imul D (pc' := 59) d4_58 rfl  ?_
        have hcc : (A ++ B).length = cap := own_inj (by omega) (by omega) hc45
        obtain rfl : jc = [] := List.eq_nil_of_length_eq_zero (by omega)
        obtain rfl : jn = [] := List.eq_nil_of_length_eq_zero (by omega)
        have hpos : 0 < cap := hcap0
        rw [own_dbl (by omega)]
        refine Go.callS D (argsL := [(.ref ca), (.int (Int32.ofNat (2 * (A ++ B).length)))]) (rest := [(.ref t)]) (pc' := 62) (ce' := 1) (sl' := 8) (con_copy l Z a0 hw h1 n0 Z0 ca ka cap (2 * (A ++ B).length) _ Ac (by simp [vc] <;> omega) (by omega) (by omega)) (hw _ (List.mem_of_getElem? (i := 41) rfl)) (hw _ (List.mem_of_getElem? (i := 42) rfl)) (hw _ (List.mem_of_getElem? (i := 27) rfl)) (hw _ (List.mem_of_getElem? (i := 43) rfl)) (by decide) d4_59 rfl pd8 rfl rfl rfl (by decide) (W := 1) rfl (by decide) (by decide) (by decide) (by decide) (by decide) ?_
        intro v59 h2 q59
        obtain ⟨cb, kc, rfl, gb, E2, C2⟩ := q59
        show Go κ h2 1 8 62 #[.val (.ref t), .val (.int a), .val (.int (-(Int32.ofNat A.length + (1 : Int32)))), .val (.int (Int32.ofNat A.length))] [(.ref cb), (.ref t)]
        refine Go.putF D (pc' := 65) (hw _ (List.mem_of_getElem? (i := 14) rfl)) d4_62 rfl (F.ext E2).2.1 (F.ext E2).1 (Or.inl (hw _ (List.mem_of_getElem? (i := 15) rfl))) (hw _ (List.mem_of_getElem? (i := 5) rfl)) (ty := (.array .int)) (by decide) rfl rfl gt ?_
        intro h3 W3
        have F3 := (F.ext E2).set_codes hw W3
        have qt := own_ltn F.1.lt
        have qn := own_ltn An.lt
        refine Go.aloadN D (pc' := 66) d4_65 rfl rfl rfl ?_
        refine Go.aloadN D (pc' := 67) d4_66 rfl rfl rfl ?_
        refine Go.getF D (pc' := 70) (hw _ (List.mem_of_getElem? (i := 16) rfl)) d4_67 rfl F3.2.2.1 ?_
        refine Go.iconst D (pc' := 71) d4_70 rfl (v := (2 : Int32)) rfl ?_
        refine Go.aloadN D (pc' := 72) d4_71 rfl rfl rfl ?_
        refine Go.getF D (pc' := 75) (hw _ (List.mem_of_getElem? (i := 23) rfl)) d4_72 rfl F3.2.2.2.1 ?_
        refine Go.imul D (pc' := 76) d4_75 rfl  ?_
        have N3 := (An.ext E2).other W3 nn
        rw [own_dbl (by omega)]
        refine Go.callS D (argsL := [(.ref na), (.int (Int32.ofNat (2 * (A ++ B).length)))]) (rest := [(.ref t)]) (pc' := 79) (ce' := 2) (sl' := 16) (con_copy l Z a0 hw h3 n0 (by have := W3.size; have := E2.1; omega) na kb cap (2 * (A ++ B).length) _ N3 (by simp [vn] <;> omega) (by omega) (by omega)) (hw _ (List.mem_of_getElem? (i := 41) rfl)) (hw _ (List.mem_of_getElem? (i := 42) rfl)) (hw _ (List.mem_of_getElem? (i := 27) rfl)) (hw _ (List.mem_of_getElem? (i := 43) rfl)) (by decide) d4_76 rfl pd8 rfl rfl rfl (by decide) (W := 1) rfl (by decide) (by decide) (by decide) (by decide) (by decide) ?_
        intro v76 h4 q76
        obtain ⟨nb, kd, rfl, gb2, E4, N4⟩ := q76
        show Go κ h4 2 16 79 #[.val (.ref t), .val (.int a), .val (.int (-(Int32.ofNat A.length + (1 : Int32)))), .val (.int (Int32.ofNat A.length))] [(.ref nb), (.ref t)]
        refine Go.putF D (pc' := 82) (hw _ (List.mem_of_getElem? (i := 16) rfl)) d4_79 rfl (F3.ext E4).2.2.1 (F3.ext E4).1 (Or.inl (hw _ (List.mem_of_getElem? (i := 17) rfl))) (hw _ (List.mem_of_getElem? (i := 5) rfl)) (ty := (.array .int)) (by decide) rfl rfl gt ?_
        intro h5 W5
        have z3 := W3.size
        have z2 := E2.1
        have z5 := own_ltn C2.lt
        have z6 := E4.1
        have z7 := own_ltn N4.lt
        refine J82 h5 cb nb kc kd (List.replicate (2 * (A ++ B).length - cap) (.int 0)) (List.replicate (2 * (A ++ B).length - cap) (.int 0)) (2 * (A ++ B).length) ((F3.ext E4).set_counts hw W5) ?_ ?_ ?_ ?_ (own_ne (by omega)) (own_ne (by omega)) (own_ne (by omega)) (by omega) (by omega) (by omega) (by omega)
        · have q := ((C2.other W3 (own_ne (by omega))).ext E4).other W5 (own_ne (by omega))
          simpa using q
        · have q := N4.other W5 (own_ne (by omega))
          simpa using q
        · simp; omega
        · simp; omega
    · intro (hc15 : ¬ (-(Int32.ofNat A.length + (1 : Int32))) < 0)
      exact absurd (own_neg (by omega)) hc15
abbrev y12 : MethodName := ⟨"com/example/opaque_cohort/opaquecohort/CodeTally", "remove", "(I)V"⟩
theorem d12_0 : decode prog_1_method_3_code 0 = .ok (.aload_n 0, 1) := by decide +kernel
theorem d12_1 : decode prog_1_method_3_code 1 = .ok (.getfield 7, 3) := by decide +kernel
theorem d12_4 : decode prog_1_method_3_code 4 = .ok (.iconst 0, 1) := by decide +kernel
theorem d12_5 : decode prog_1_method_3_code 5 = .ok (.aload_n 0, 1) := by decide +kernel
theorem d12_6 : decode prog_1_method_3_code 6 = .ok (.getfield 16, 3) := by decide +kernel
theorem d12_9 : decode prog_1_method_3_code 9 = .ok (.iload_n 1, 1) := by decide +kernel
theorem d12_10 : decode prog_1_method_3_code 10 = .ok (.invokestatic 20, 3) := by decide +kernel
theorem d12_13 : decode prog_1_method_3_code 13 = .ok (.istore_n 2, 1) := by decide +kernel
theorem d12_14 : decode prog_1_method_3_code 14 = .ok (.aload_n 0, 1) := by decide +kernel
theorem d12_15 : decode prog_1_method_3_code 15 = .ok (.getfield 13, 3) := by decide +kernel
theorem d12_18 : decode prog_1_method_3_code 18 = .ok (.iload_n 2, 1) := by decide +kernel
theorem d12_19 : decode prog_1_method_3_code 19 = .ok (.dup2, 1) := by decide +kernel
theorem d12_20 : decode prog_1_method_3_code 20 = .ok (.iaload, 1) := by decide +kernel
theorem d12_21 : decode prog_1_method_3_code 21 = .ok (.iconst 1, 1) := by decide +kernel
theorem d12_22 : decode prog_1_method_3_code 22 = .ok (.isub, 1) := by decide +kernel
theorem d12_23 : decode prog_1_method_3_code 23 = .ok (.iastore, 1) := by decide +kernel
theorem d12_24 : decode prog_1_method_3_code 24 = .ok (.aload_n 0, 1) := by decide +kernel
theorem d12_25 : decode prog_1_method_3_code 25 = .ok (.getfield 13, 3) := by decide +kernel
theorem d12_28 : decode prog_1_method_3_code 28 = .ok (.iload_n 2, 1) := by decide +kernel
theorem d12_29 : decode prog_1_method_3_code 29 = .ok (.iaload, 1) := by decide +kernel
theorem d12_30 : decode prog_1_method_3_code 30 = .ok (.ifCond .ne 81, 3) := by decide +kernel
theorem d12_33 : decode prog_1_method_3_code 33 = .ok (.aload_n 0, 1) := by decide +kernel
theorem d12_34 : decode prog_1_method_3_code 34 = .ok (.getfield 7, 3) := by decide +kernel
theorem d12_37 : decode prog_1_method_3_code 37 = .ok (.iload_n 2, 1) := by decide +kernel
theorem d12_38 : decode prog_1_method_3_code 38 = .ok (.iconst 1, 1) := by decide +kernel
theorem d12_39 : decode prog_1_method_3_code 39 = .ok (.iadd, 1) := by decide +kernel
theorem d12_40 : decode prog_1_method_3_code 40 = .ok (.aload_n 0, 1) := by decide +kernel
theorem d12_41 : decode prog_1_method_3_code 41 = .ok (.getfield 7, 3) := by decide +kernel
theorem d12_44 : decode prog_1_method_3_code 44 = .ok (.iload_n 2, 1) := by decide +kernel
theorem d12_45 : decode prog_1_method_3_code 45 = .ok (.aload_n 0, 1) := by decide +kernel
theorem d12_46 : decode prog_1_method_3_code 46 = .ok (.getfield 16, 3) := by decide +kernel
theorem d12_49 : decode prog_1_method_3_code 49 = .ok (.iload_n 2, 1) := by decide +kernel
theorem d12_50 : decode prog_1_method_3_code 50 = .ok (.isub, 1) := by decide +kernel
theorem d12_51 : decode prog_1_method_3_code 51 = .ok (.iconst 1, 1) := by decide +kernel
theorem d12_52 : decode prog_1_method_3_code 52 = .ok (.isub, 1) := by decide +kernel
theorem d12_53 : decode prog_1_method_3_code 53 = .ok (.invokestatic 30, 3) := by decide +kernel
theorem d12_56 : decode prog_1_method_3_code 56 = .ok (.aload_n 0, 1) := by decide +kernel
theorem d12_57 : decode prog_1_method_3_code 57 = .ok (.getfield 13, 3) := by decide +kernel
theorem d12_60 : decode prog_1_method_3_code 60 = .ok (.iload_n 2, 1) := by decide +kernel
theorem d12_61 : decode prog_1_method_3_code 61 = .ok (.iconst 1, 1) := by decide +kernel
theorem d12_62 : decode prog_1_method_3_code 62 = .ok (.iadd, 1) := by decide +kernel
theorem d12_63 : decode prog_1_method_3_code 63 = .ok (.aload_n 0, 1) := by decide +kernel
theorem d12_64 : decode prog_1_method_3_code 64 = .ok (.getfield 13, 3) := by decide +kernel
theorem d12_67 : decode prog_1_method_3_code 67 = .ok (.iload_n 2, 1) := by decide +kernel
theorem d12_68 : decode prog_1_method_3_code 68 = .ok (.aload_n 0, 1) := by decide +kernel
theorem d12_69 : decode prog_1_method_3_code 69 = .ok (.getfield 16, 3) := by decide +kernel
theorem d12_72 : decode prog_1_method_3_code 72 = .ok (.iload_n 2, 1) := by decide +kernel
theorem d12_73 : decode prog_1_method_3_code 73 = .ok (.isub, 1) := by decide +kernel
theorem d12_74 : decode prog_1_method_3_code 74 = .ok (.iconst 1, 1) := by decide +kernel
theorem d12_75 : decode prog_1_method_3_code 75 = .ok (.isub, 1) := by decide +kernel
theorem d12_76 : decode prog_1_method_3_code 76 = .ok (.invokestatic 30, 3) := by decide +kernel
theorem d12_79 : decode prog_1_method_3_code 79 = .ok (.aload_n 0, 1) := by decide +kernel
theorem d12_80 : decode prog_1_method_3_code 80 = .ok (.dup, 1) := by decide +kernel
theorem d12_81 : decode prog_1_method_3_code 81 = .ok (.getfield 16, 3) := by decide +kernel
theorem d12_84 : decode prog_1_method_3_code 84 = .ok (.iconst 1, 1) := by decide +kernel
theorem d12_85 : decode prog_1_method_3_code 85 = .ok (.isub, 1) := by decide +kernel
theorem d12_86 : decode prog_1_method_3_code 86 = .ok (.putfield 16, 3) := by decide +kernel
theorem d12_89 : decode prog_1_method_3_code 89 = .ok (.iload_n 1, 1) := by decide +kernel
theorem d12_90 : decode prog_1_method_3_code 90 = .ok (.bipush 64, 2) := by decide +kernel
theorem d12_92 : decode prog_1_method_3_code 92 = .ok (.if_icmp .ge 19, 3) := by decide +kernel
theorem d12_95 : decode prog_1_method_3_code 95 = .ok (.aload_n 0, 1) := by decide +kernel
theorem d12_96 : decode prog_1_method_3_code 96 = .ok (.dup, 1) := by decide +kernel
theorem d12_97 : decode prog_1_method_3_code 97 = .ok (.getfield 38, 3) := by decide +kernel
theorem d12_100 : decode prog_1_method_3_code 100 = .ok (.lconst 1, 1) := by decide +kernel
theorem d12_101 : decode prog_1_method_3_code 101 = .ok (.iload_n 1, 1) := by decide +kernel
theorem d12_102 : decode prog_1_method_3_code 102 = .ok (.lshl, 1) := by decide +kernel
theorem d12_103 : decode prog_1_method_3_code 103 = .ok (.ldc2_w 42, 3) := by decide +kernel
theorem d12_106 : decode prog_1_method_3_code 106 = .ok (.lxor, 1) := by decide +kernel
theorem d12_107 : decode prog_1_method_3_code 107 = .ok (.land, 1) := by decide +kernel
theorem d12_108 : decode prog_1_method_3_code 108 = .ok (.putfield 38, 3) := by decide +kernel
theorem d12_111 : decode prog_1_method_3_code 111 = .ok (.return_, 1) := by decide +kernel
theorem pd12 : parseMethodDescriptor "(I)V" = some ⟨[.int], none⟩ := by decide +kernel
theorem pn12 : plainFor y12 = true := by first | exact plainFor_of_name (by first | (simp [plainName, overriddenIn]; done) | decide +kernel) | decide +kernel | rfl
set_option maxRecDepth 65536 in
set_option maxHeartbeats 40000000 in
theorem con_remove (l : Launch) (Z : State) (a0 : Array Value) (hw : ∀ d ∈ tables_1, d.before a0 Z = true) (h0 : Heap) (n0 : Nat) (t : Addr) (a : Int32) (cap N : Nat) (ps : List (Int32 × Nat)) (fc : Int64) (T : Tal Z h0 n0 t cap ps fc) (hs : Srt ps) (hc : Cts N ps) (hN : N ≤ 4) (hcap : cap ≤ 2 * N + 1) (hpa : 0 < cnt ps a) :
    Con l Z y12 prog_1_method_3_code 3 none ({ frames := 2, cells := 0, slots := 0, locals := 100 } : Room) [] #[(.ref t), (.int a)] h0 n0 (fun v h => v = none ∧ ∃ ps' fc', Tal Z h n0 t cap ps' fc' ∧ Srt ps' ∧ Cts N ps' ∧ (∀ x, cnt ps' x + (if a = x then 1 else 0) = cnt ps x) ∧ FcR (cnt ps a) a fc fc') := by
  refine Con.of_go pn12 (ls := #[.val (.ref t), .val (.int a), .unset]) (fun m => by first | (simp [entryFrame, mkF, argsToLocals, Value.category]; done) | rfl) ?_
  intro κ D
  obtain ⟨ca, na, ka, kb, jc, jn, F, Ac, An, hjc, hjn, ncn, nc, nn, gt, gc, gn⟩ := T
  have hlen := hc.1
  refine Go.aloadN D (pc' := 1) d12_0 rfl rfl rfl ?_
  refine Go.getF D (pc' := 4) (hw _ (List.mem_of_getElem? (i := 14) rfl)) d12_1 rfl F.2.1 ?_
  refine Go.iconst D (pc' := 5) d12_4 rfl (v := (0 : Int32)) rfl ?_
  refine Go.aloadN D (pc' := 6) d12_5 rfl rfl rfl ?_
  refine Go.getF D (pc' := 9) (hw _ (List.mem_of_getElem? (i := 23) rfl)) d12_6 rfl F.2.2.2.1 ?_
  refine Go.iloadN D (pc' := 10) d12_9 rfl rfl ?_
  refine Go.callS D (argsL := [(.ref ca), (.int (0 : Int32)), (.int (Int32.ofNat ps.length)), (.int a)]) (rest := []) (pc' := 13) (ce' := 0) (sl' := 0) (con_bs l Z a0 hw h0 n0 ca ka cap ps jc Ac hs (by omega) (by omega) a) (hw _ (List.mem_of_getElem? (i := 25) rfl)) (hw _ (List.mem_of_getElem? (i := 26) rfl)) (hw _ (List.mem_of_getElem? (i := 27) rfl)) (hw _ (List.mem_of_getElem? (i := 28) rfl)) (by decide) d12_10 rfl pd5 rfl rfl rfl (by decide) (W := 0) rfl (by decide) (by decide) (by decide) (by decide) (by decide) ?_
  intro v10 h1 q10
  obtain ⟨rfl, r, rfl, hr⟩ := q10
  show Go κ h1 0 0 13 #[.val (.ref t), .val (.int a), .unset] [(.int r)]
  rcases hr with hr | hr0
  rotate_left
  · exact absurd (bs_cnt hr0) (by omega)
  obtain ⟨A, n, B, rfl, rfl⟩ := hr
  have hca := cnt_at hs
  have hn := hc.2 (a, n) (by simp)
  dsimp only at hn
  have hL : (A ++ (a, n) :: B).length = A.length + B.length + 1 := by simp; omega
  have hA : A.length < cap := by omega
  refine Go.istoreN D (pc' := 14) d12_13 rfl (ls' := #[.val (.ref t), .val (.int a), .val (.int (Int32.ofNat A.length))]) rfl ?_
  refine Go.aloadN D (pc' := 15) d12_14 rfl rfl rfl ?_
  refine Go.getF D (pc' := 18) (hw _ (List.mem_of_getElem? (i := 16) rfl)) d12_15 rfl F.2.2.1 ?_
  refine Go.iloadN D (pc' := 19) d12_18 rfl rfl ?_
  refine Go.dup2 D (pc' := 20) d12_19 rfl rfl rfl ?_
  refine Go.iaload D (pc' := 21) d12_20 rfl An (own_nn (by omega)) ((own_lt (by omega) (by omega)).mpr hA) (v := .int (Int32.ofNat n)) (by rw [own_tn (by omega)]; exact vn_at) ?_
  refine Go.iconst D (pc' := 22) d12_21 rfl (v := (1 : Int32)) rfl ?_
  refine Go.isub D (pc' := 23) d12_22 rfl  ?_
  rw [own_pred (by omega) (by omega)]
  refine Go.iastore D (pc' := 24) (i := A.length) d12_23 rfl An (own_nn (by omega)) ((own_lt (by omega) (by omega)).mpr hA) (own_tn (by omega)) (by simp [vn] <;> omega) gn  ?_
  intro h2 K2 N2
  have F2 := F.keep K2 (nin1 (Ne.symm nn))
  have C2 := Ac.keep K2 (nin1 ncn)
  have N2' : Arv Z h2 na kb .int (Int32.ofNat cap) (vn (A ++ (a, n - 1) :: B) ++ jn) (.int 0) := by simpa [vn] using N2
  refine Go.aloadN D (pc' := 25) d12_24 rfl rfl rfl ?_
  refine Go.getF D (pc' := 28) (hw _ (List.mem_of_getElem? (i := 16) rfl)) d12_25 rfl F2.2.2.1 ?_
  refine Go.iloadN D (pc' := 29) d12_28 rfl rfl ?_
  refine Go.iaload D (pc' := 30) d12_29 rfl N2' (own_nn (by omega)) ((own_lt (by omega) (by omega)).mpr hA) (v := .int (Int32.ofNat (n - 1))) (by rw [own_tn (by omega)]; exact vn_at) ?_
  refine Go.ifc D (pc' := 111) (pc2 := 33) d12_30 (by decide) (by decide) rfl ?_ ?_
  · intro (hc30 : ¬ (Int32.ofNat (n - 1)) = 0)
    refine Go.vret D rfl d12_111 (by decide) (by decide) ?_
    have hn2 : n - 1 ≠ 0 := fun q => hc30 (by rw [q]; rfl)
    refine ⟨rfl, A ++ (a, n - 1) :: B, fc, ⟨ca, na, ka, kb, jc, jn, ?_, ?_, N2', ?_, ?_, ncn, nc, nn, gt, gc, gn⟩, set_srt hs, ?_, ?_, ?_⟩
    · simpa using F2
    · simpa [vc] using C2
    · simpa using hjc
    · simpa using hjn
    · refine ⟨by simp at hlen ⊢; omega, fun p hp => ?_⟩
      rcases List.mem_append.mp hp with hp | hp
      · exact hc.2 p (by simp [hp])
      · rcases List.mem_cons.mp hp with rfl | hp
        · dsimp only; omega
        · exact hc.2 p (by simp [hp])
    · intro x
      simp only [cnt_app, cnt]
      split <;> omega
    · exact Or.inl ⟨by omega, rfl⟩
  · intro (hc30 : (Int32.ofNat (n - 1)) = 0)
    have hn1 : n = 1 := by
      have := own_inj (j := 0) (by omega) (by omega) hc30
      omega
    refine Go.aloadN D (pc' := 34) d12_33 rfl rfl rfl ?_
    refine Go.getF D (pc' := 37) (hw _ (List.mem_of_getElem? (i := 14) rfl)) d12_34 rfl F2.2.1 ?_
    refine Go.iloadN D (pc' := 38) d12_37 rfl rfl ?_
    refine Go.iconst D (pc' := 39) d12_38 rfl (v := (1 : Int32)) rfl ?_
    refine Go.iadd D (pc' := 40) d12_39 rfl  ?_
    refine Go.aloadN D (pc' := 41) d12_40 rfl rfl rfl ?_
    refine Go.getF D (pc' := 44) (hw _ (List.mem_of_getElem? (i := 14) rfl)) d12_41 rfl F2.2.1 ?_
    refine Go.iloadN D (pc' := 45) d12_44 rfl rfl ?_
    refine Go.aloadN D (pc' := 46) d12_45 rfl rfl rfl ?_
    refine Go.getF D (pc' := 49) (hw _ (List.mem_of_getElem? (i := 23) rfl)) d12_46 rfl F2.2.2.2.1 ?_
    refine Go.iloadN D (pc' := 50) d12_49 rfl rfl ?_
    refine Go.isub D (pc' := 51) d12_50 rfl  ?_
    refine Go.iconst D (pc' := 52) d12_51 rfl (v := (1 : Int32)) rfl ?_
    refine Go.isub D (pc' := 53) d12_52 rfl  ?_
    rw [own_succ, own_sub (by omega) (by omega), own_pred (by omega) (by omega), show (A ++ (a, n) :: B).length - A.length - 1 = B.length by omega]
    refine Go.acopy D (pc' := 56) (sN := (A.length + 1)) (dN := A.length) (nN := B.length) (hw _ (List.mem_of_getElem? (i := 35) rfl)) (hw _ (List.mem_of_getElem? (i := 38) rfl)) (hw _ (List.mem_of_getElem? (i := 36) rfl)) (hw _ (List.mem_of_getElem? (i := 37) rfl)) d12_53 rfl C2 C2 rfl (own_nn (by omega)) (own_nn (by omega)) (own_nn (by omega)) (own_tn (by omega)) (own_tn (by omega)) (own_tn (by omega)) (by rw [own_tn (by omega)]; omega) (by rw [own_tn (by omega)]; omega) (by simp [vc, vn] <;> omega) gc rfl (by decide) (W := 0) rfl (by decide) ?_
    intro h3 K3 C3
    refine Go.aloadN D (pc' := 57) d12_56 rfl rfl rfl ?_
    refine Go.getF D (pc' := 60) (hw _ (List.mem_of_getElem? (i := 16) rfl)) d12_57 rfl (F2.keep K3 (nin1 (Ne.symm nc))).2.2.1 ?_
    refine Go.iloadN D (pc' := 61) d12_60 rfl rfl ?_
    refine Go.iconst D (pc' := 62) d12_61 rfl (v := (1 : Int32)) rfl ?_
    refine Go.iadd D (pc' := 63) d12_62 rfl  ?_
    refine Go.aloadN D (pc' := 64) d12_63 rfl rfl rfl ?_
    refine Go.getF D (pc' := 67) (hw _ (List.mem_of_getElem? (i := 16) rfl)) d12_64 rfl (F2.keep K3 (nin1 (Ne.symm nc))).2.2.1 ?_
    refine Go.iloadN D (pc' := 68) d12_67 rfl rfl ?_
    refine Go.aloadN D (pc' := 69) d12_68 rfl rfl rfl ?_
    refine Go.getF D (pc' := 72) (hw _ (List.mem_of_getElem? (i := 23) rfl)) d12_69 rfl (F2.keep K3 (nin1 (Ne.symm nc))).2.2.2.1 ?_
    refine Go.iloadN D (pc' := 73) d12_72 rfl rfl ?_
    refine Go.isub D (pc' := 74) d12_73 rfl  ?_
    refine Go.iconst D (pc' := 75) d12_74 rfl (v := (1 : Int32)) rfl ?_
    refine Go.isub D (pc' := 76) d12_75 rfl  ?_
    rw [own_succ, own_sub (by omega) (by omega), own_pred (by omega) (by omega), show (A ++ (a, n) :: B).length - A.length - 1 = B.length by omega]
    refine Go.acopy D (pc' := 79) (sN := (A.length + 1)) (dN := A.length) (nN := B.length) (hw _ (List.mem_of_getElem? (i := 35) rfl)) (hw _ (List.mem_of_getElem? (i := 38) rfl)) (hw _ (List.mem_of_getElem? (i := 36) rfl)) (hw _ (List.mem_of_getElem? (i := 37) rfl)) d12_76 rfl (N2'.keep K3 (nin1 (Ne.symm ncn))) (N2'.keep K3 (nin1 (Ne.symm ncn))) rfl (own_nn (by omega)) (own_nn (by omega)) (own_nn (by omega)) (own_tn (by omega)) (own_tn (by omega)) (own_tn (by omega)) (by rw [own_tn (by omega)]; omega) (by rw [own_tn (by omega)]; omega) (by simp [vc, vn] <;> omega) gn rfl (by decide) (W := 0) rfl (by decide) ?_
    intro h4 K4 N4
    have F4 := (F2.keep K3 (nin1 (Ne.symm nc))).keep K4 (nin1 (Ne.symm nn))
    have C4 := C3.keep K4 (nin1 ncn)
    refine Go.aloadN D (pc' := 80) d12_79 rfl rfl rfl ?_
    refine Go.dup D (pc' := 81) d12_80 rfl rfl ?_
    refine Go.getF D (pc' := 84) (hw _ (List.mem_of_getElem? (i := 23) rfl)) d12_81 rfl F4.2.2.2.1 ?_
    refine Go.iconst D (pc' := 85) d12_84 rfl (v := (1 : Int32)) rfl ?_
    refine Go.isub D (pc' := 86) d12_85 rfl  ?_
    rw [own_pred (by omega) (by omega)]
    refine Go.putF D (pc' := 89) (hw _ (List.mem_of_getElem? (i := 23) rfl)) d12_86 rfl F4.2.2.2.1 F4.1 (Or.inl (hw _ (List.mem_of_getElem? (i := 24) rfl))) (hw _ (List.mem_of_getElem? (i := 5) rfl)) (ty := .int) (by decide) rfl rfl gt ?_
    intro h5 W5
    have F5 := F4.set_distinct hw W5
    have C5 := C4.other W5 nc
    have N5 := N4.other W5 nn
    obtain ⟨j1, C6⟩ : ∃ j, Arv Z h5 ca ka .int (Int32.ofNat cap) (vc (A ++ B) ++ j :: jc) (.int 0) := by
      obtain ⟨j, e⟩ := del_list (A := A.map fun p => Value.int p.1) (B := B.map fun p => Value.int p.1) (c := .int a) (dv := .int 0) (J := jc)
      simp only [List.length_map] at e
      simp only [vc, List.map_append, List.map_cons] at C5
      rw [e] at C5
      exact ⟨j, by simpa [vc] using C5⟩
    obtain ⟨j2, N6⟩ : ∃ j, Arv Z h5 na kb .int (Int32.ofNat cap) (vn (A ++ B) ++ j :: jn) (.int 0) := by
      obtain ⟨j, e⟩ := del_list (A := A.map fun p => Value.int (Int32.ofNat p.2)) (B := B.map fun p => Value.int (Int32.ofNat p.2)) (c := .int (Int32.ofNat (n - 1))) (dv := .int 0) (J := jn)
      simp only [List.length_map] at e
      simp only [vn, List.map_append, List.map_cons] at N5
      rw [e] at N5
      exact ⟨j, by simpa [vn] using N5⟩
    refine Go.iloadN D (pc' := 90) d12_89 rfl rfl ?_
    refine Go.bipush D (pc' := 92) d12_90 rfl (v := (64 : Int32)) rfl ?_
    refine Go.icmp D (pc' := 111) (pc2 := 95) d12_92 (by decide) (by decide) rfl ?_ ?_
    · intro (hc92 : ¬ a < (64 : Int32))
      refine Go.vret D rfl d12_111 (by decide) (by decide) ?_
      refine ⟨rfl, A ++ B, _, ⟨ca, na, ka, kb, j1 :: jc, j2 :: jn, ?_, C6, N6, ?_, ?_, ncn, nc, nn, gt, gc, gn⟩, del_srt hs, ?_, ?_, Or.inr ⟨hca.trans hn1, Or.inl ⟨hc92, rfl⟩⟩⟩
      · have e : (A ++ B).length = (A ++ (a, n) :: B).length - 1 := by simp <;> omega
        rw [e]; exact F5
      · simp at hjc ⊢; omega
      · simp at hjn ⊢; omega
      · refine ⟨by simp at hlen ⊢; omega, fun p hp => ?_⟩
        rcases List.mem_append.mp hp with hp | hp
        · exact hc.2 p (by simp [hp])
        · exact hc.2 p (by simp [hp])
      · intro x
        simp only [cnt_app, cnt]
        split <;> omega
    · intro (hc92 : a < (64 : Int32))
      refine Go.aloadN D (pc' := 96) d12_95 rfl rfl rfl ?_
      refine Go.dup D (pc' := 97) d12_96 rfl rfl ?_
      refine Go.getF D (pc' := 100) (hw _ (List.mem_of_getElem? (i := 39) rfl)) d12_97 rfl F5.2.2.2.2 ?_
      refine Go.lconst D (pc' := 101) d12_100 rfl (v := (1 : Int64)) rfl ?_
      refine Go.iloadN D (pc' := 102) d12_101 rfl rfl ?_
      refine Go.lshl D (pc' := 103) d12_102 rfl  ?_
      refine Go.ldc2Long D (pc' := 106) (hw _ (List.mem_of_getElem? (i := 62) rfl)) d12_103 rfl ?_
      refine Go.lxor D (pc' := 107) d12_106 rfl  ?_
      refine Go.land D (pc' := 108) d12_107 rfl  ?_
      refine Go.putF D (pc' := 111) (hw _ (List.mem_of_getElem? (i := 39) rfl)) d12_108 rfl F5.2.2.2.2 F5.1 (Or.inl (hw _ (List.mem_of_getElem? (i := 40) rfl))) (hw _ (List.mem_of_getElem? (i := 5) rfl)) (ty := .long) (by decide) rfl rfl gt ?_
      intro h6 W6
      refine Go.vret D rfl d12_111 (by decide) (by decide) ?_
      refine ⟨rfl, A ++ B, _, ⟨ca, na, ka, kb, j1 :: jc, j2 :: jn, ?_, (C6.other W6 nc), (N6.other W6 nn), ?_, ?_, ncn, nc, nn, gt, gc, gn⟩, del_srt hs, ?_, ?_, Or.inr ⟨hca.trans hn1, Or.inr ⟨hc92, rfl⟩⟩⟩
      · have e : (A ++ B).length = (A ++ (a, n) :: B).length - 1 := by simp <;> omega
        rw [e]; exact (F5.set_firstCodes hw W6)
      · simp at hjc ⊢; omega
      · simp at hjn ⊢; omega
      · refine ⟨by simp at hlen ⊢; omega, fun p hp => ?_⟩
        rcases List.mem_append.mp hp with hp | hp
        · exact hc.2 p (by simp [hp])
        · exact hc.2 p (by simp [hp])
      · intro x
        simp only [cnt_app, cnt]
        split <;> omega
abbrev y1 : MethodName := ⟨"com/example/opaque_cohort/opaquecohort/CodeTallyHoldsPinLaw", "code", "(I)I"⟩
theorem d1_0 : decode method_2_code 0 = .ok (.iload_n 0, 1) := by decide +kernel
theorem d1_1 : decode method_2_code 1 = .ok (.iconst 1, 1) := by decide +kernel
theorem d1_2 : decode method_2_code 2 = .ok (.iand, 1) := by decide +kernel
theorem d1_3 : decode method_2_code 3 = .ok (.ifCond .ne 12, 3) := by decide +kernel
theorem d1_6 : decode method_2_code 6 = .ok (.iload_n 0, 1) := by decide +kernel
theorem d1_7 : decode method_2_code 7 = .ok (.iconst 1, 1) := by decide +kernel
theorem d1_8 : decode method_2_code 8 = .ok (.iushr, 1) := by decide +kernel
theorem d1_9 : decode method_2_code 9 = .ok (.bipush 127, 2) := by decide +kernel
theorem d1_11 : decode method_2_code 11 = .ok (.iand, 1) := by decide +kernel
theorem d1_12 : decode method_2_code 12 = .ok (.goto 6, 3) := by decide +kernel
theorem d1_15 : decode method_2_code 15 = .ok (.iload_n 0, 1) := by decide +kernel
theorem d1_16 : decode method_2_code 16 = .ok (.iconst 1, 1) := by decide +kernel
theorem d1_17 : decode method_2_code 17 = .ok (.iushr, 1) := by decide +kernel
theorem d1_18 : decode method_2_code 18 = .ok (.ireturn, 1) := by decide +kernel
theorem pd1 : parseMethodDescriptor "(I)I" = some ⟨[.int], (some .int)⟩ := by decide +kernel
theorem pn1 : plainFor y1 = true := by first | exact plainFor_of_name (by first | (simp [plainName, overriddenIn]; done) | decide +kernel) | decide +kernel | rfl
set_option maxRecDepth 65536 in
set_option maxHeartbeats 40000000 in
theorem con_code (l : Launch) (Z : State) (a0 : Array Value) (hw : ∀ d ∈ tables_1, d.before a0 Z = true) (h0 : Heap) (n0 : Nat) (x : Int32) :
    Con l Z y1 method_2_code 1 ((some .int)) ({ frames := 0, cells := 0, slots := 0, locals := 0 } : Room) [] #[(.int x)] h0 n0 (fun v h => h = h0 ∧ ∃ r, v = some (.int r) ∧ ¬ r < 0) := by
  refine Con.of_go pn1 (ls := #[.val (.int x)]) (fun m => by first | (simp [entryFrame, mkF, argsToLocals, Value.category]; done) | rfl) ?_
  intro κ D
  refine Go.iloadN D (pc' := 1) d1_0 rfl rfl ?_
  refine Go.iconst D (pc' := 2) d1_1 rfl (v := (1 : Int32)) rfl ?_
  refine Go.iand D (pc' := 3) d1_2 rfl  ?_
  refine Go.ifc D (pc' := 15) (pc2 := 6) d1_3 (by decide) (by decide) rfl ?_ ?_
  · intro (hc3 : ¬ (x &&& (1 : Int32)) = 0)
    refine Go.iloadN D (pc' := 16) d1_15 rfl rfl ?_
    refine Go.iconst D (pc' := 17) d1_16 rfl (v := (1 : Int32)) rfl ?_
    refine Go.iushr D (pc' := 18) d1_17 rfl  ?_
    refine Go.iret D rfl d1_18 (by decide) (by decide) ?_
    refine ⟨rfl, _, rfl, ?_⟩
    rw [Int32.lt_iff_toInt_lt]
    have e := c_iushr x 1 1 (by decide) (by decide)
    show ¬ (x.toUInt32 >>> ((1 : Int32) &&& 31).toUInt32).toInt32.toInt < 0
    omega
  · intro (hc3 : (x &&& (1 : Int32)) = 0)
    refine Go.iloadN D (pc' := 7) d1_6 rfl rfl ?_
    refine Go.iconst D (pc' := 8) d1_7 rfl (v := (1 : Int32)) rfl ?_
    refine Go.iushr D (pc' := 9) d1_8 rfl  ?_
    refine Go.bipush D (pc' := 11) d1_9 rfl (v := (127 : Int32)) rfl ?_
    refine Go.iand D (pc' := 12) d1_11 rfl  ?_
    refine Go.goto D (pc' := 18) d1_12 (by decide) (by decide) ?_
    refine Go.iret D rfl d1_18 (by decide) (by decide) ?_
    refine ⟨rfl, _, rfl, ?_⟩
    rw [Int32.lt_iff_toInt_lt]
    have e := c_iushr x 1 1 (by decide) (by decide)
    have e2 := c_and (ushr x 1) 127 (by decide)
    show ¬ ((ushr x 1) &&& 127).toInt < 0
    omega
abbrev y10 : MethodName := ⟨"com/example/opaque_cohort/opaquecohort/CodeTallyHoldsPinLaw", "eq", "(II)I"⟩
theorem d10_0 : decode method_3_code 0 = .ok (.iload_n 0, 1) := by decide +kernel
theorem d10_1 : decode method_3_code 1 = .ok (.iload_n 1, 1) := by decide +kernel
theorem d10_2 : decode method_3_code 2 = .ok (.if_icmp .ne 7, 3) := by decide +kernel
theorem d10_5 : decode method_3_code 5 = .ok (.iconst 1, 1) := by decide +kernel
theorem d10_6 : decode method_3_code 6 = .ok (.goto 4, 3) := by decide +kernel
theorem d10_9 : decode method_3_code 9 = .ok (.iconst 0, 1) := by decide +kernel
theorem d10_10 : decode method_3_code 10 = .ok (.ireturn, 1) := by decide +kernel
theorem pd10 : parseMethodDescriptor "(II)I" = some ⟨[.int, .int], (some .int)⟩ := by decide +kernel
theorem pn10 : plainFor y10 = true := by first | exact plainFor_of_name (by first | (simp [plainName, overriddenIn]; done) | decide +kernel) | decide +kernel | rfl
set_option maxRecDepth 65536 in
set_option maxHeartbeats 40000000 in
theorem con_eq (l : Launch) (Z : State) (a0 : Array Value) (hw : ∀ d ∈ tables_1, d.before a0 Z = true) (h0 : Heap) (n0 : Nat) (x z : Int32) :
    Con l Z y10 method_3_code 2 ((some .int)) ({ frames := 0, cells := 0, slots := 0, locals := 0 } : Room) [] #[(.int x), (.int z)] h0 n0 (fun v h => h = h0 ∧ ∃ r, v = some (.int r) ∧ ((x = z ∧ r = 1) ∨ (¬ x = z ∧ r = 0))) := by
  refine Con.of_go pn10 (ls := #[.val (.int x), .val (.int z)]) (fun m => by first | (simp [entryFrame, mkF, argsToLocals, Value.category]; done) | rfl) ?_
  intro κ D
  refine Go.iloadN D (pc' := 1) d10_0 rfl rfl ?_
  refine Go.iloadN D (pc' := 2) d10_1 rfl rfl ?_
  refine Go.icmp D (pc' := 9) (pc2 := 5) d10_2 (by decide) (by decide) rfl ?_ ?_
  · intro (hc2 : ¬ x = z)
    refine Go.iconst D (pc' := 10) d10_9 rfl (v := (0 : Int32)) rfl ?_
    refine Go.iret D rfl d10_10 (by decide) (by decide) ?_
    exact ⟨rfl, _, rfl, Or.inr ⟨hc2, rfl⟩⟩
  · intro (hc2 : x = z)
    refine Go.iconst D (pc' := 6) d10_5 rfl (v := (1 : Int32)) rfl ?_
    refine Go.goto D (pc' := 10) d10_6 (by decide) (by decide) ?_
    refine Go.iret D rfl d10_10 (by decide) (by decide) ?_
    exact ⟨rfl, _, rfl, Or.inl ⟨hc2, rfl⟩⟩
abbrev y11 : MethodName := ⟨"com/example/opaque_cohort/opaquecohort/CodeTally", "holds", "(I)Z"⟩
theorem d11_0 : decode prog_1_method_4_code 0 = .ok (.iload_n 1, 1) := by decide +kernel
theorem d11_1 : decode prog_1_method_4_code 1 = .ok (.bipush 64, 2) := by decide +kernel
theorem d11_3 : decode prog_1_method_4_code 3 = .ok (.if_icmp .ge 25, 3) := by decide +kernel
theorem d11_6 : decode prog_1_method_4_code 6 = .ok (.aload_n 0, 1) := by decide +kernel
theorem d11_7 : decode prog_1_method_4_code 7 = .ok (.getfield 38, 3) := by decide +kernel
theorem d11_10 : decode prog_1_method_4_code 10 = .ok (.lconst 1, 1) := by decide +kernel
theorem d11_11 : decode prog_1_method_4_code 11 = .ok (.iload_n 1, 1) := by decide +kernel
theorem d11_12 : decode prog_1_method_4_code 12 = .ok (.lshl, 1) := by decide +kernel
theorem d11_13 : decode prog_1_method_4_code 13 = .ok (.land, 1) := by decide +kernel
theorem d11_14 : decode prog_1_method_4_code 14 = .ok (.lconst 0, 1) := by decide +kernel
theorem d11_15 : decode prog_1_method_4_code 15 = .ok (.lcmp, 1) := by decide +kernel
theorem d11_16 : decode prog_1_method_4_code 16 = .ok (.ifCond .eq 7, 3) := by decide +kernel
theorem d11_19 : decode prog_1_method_4_code 19 = .ok (.iconst 1, 1) := by decide +kernel
theorem d11_20 : decode prog_1_method_4_code 20 = .ok (.goto 4, 3) := by decide +kernel
theorem d11_23 : decode prog_1_method_4_code 23 = .ok (.iconst 0, 1) := by decide +kernel
theorem d11_24 : decode prog_1_method_4_code 24 = .ok (.istore_n 2, 1) := by decide +kernel
theorem d11_25 : decode prog_1_method_4_code 25 = .ok (.goto 25, 3) := by decide +kernel
theorem d11_28 : decode prog_1_method_4_code 28 = .ok (.aload_n 0, 1) := by decide +kernel
theorem d11_29 : decode prog_1_method_4_code 29 = .ok (.getfield 7, 3) := by decide +kernel
theorem d11_32 : decode prog_1_method_4_code 32 = .ok (.iconst 0, 1) := by decide +kernel
theorem d11_33 : decode prog_1_method_4_code 33 = .ok (.aload_n 0, 1) := by decide +kernel
theorem d11_34 : decode prog_1_method_4_code 34 = .ok (.getfield 16, 3) := by decide +kernel
theorem d11_37 : decode prog_1_method_4_code 37 = .ok (.iload_n 1, 1) := by decide +kernel
theorem d11_38 : decode prog_1_method_4_code 38 = .ok (.invokestatic 20, 3) := by decide +kernel
theorem d11_41 : decode prog_1_method_4_code 41 = .ok (.ifCond .lt 7, 3) := by decide +kernel
theorem d11_44 : decode prog_1_method_4_code 44 = .ok (.iconst 1, 1) := by decide +kernel
theorem d11_45 : decode prog_1_method_4_code 45 = .ok (.goto 4, 3) := by decide +kernel
theorem d11_48 : decode prog_1_method_4_code 48 = .ok (.iconst 0, 1) := by decide +kernel
theorem d11_49 : decode prog_1_method_4_code 49 = .ok (.istore_n 2, 1) := by decide +kernel
theorem d11_50 : decode prog_1_method_4_code 50 = .ok (.iload_n 2, 1) := by decide +kernel
theorem d11_51 : decode prog_1_method_4_code 51 = .ok (.ireturn, 1) := by decide +kernel
theorem pd11 : parseMethodDescriptor "(I)Z" = some ⟨[.int], (some .boolean)⟩ := by decide +kernel
theorem pn11 : plainFor y11 = true := by first | exact plainFor_of_name (by first | (simp [plainName, overriddenIn]; done) | decide +kernel) | decide +kernel | rfl
set_option maxRecDepth 65536 in
set_option maxHeartbeats 40000000 in
theorem con_holds (l : Launch) (Z : State) (a0 : Array Value) (hw : ∀ d ∈ tables_1, d.before a0 Z = true) (h0 : Heap) (n0 : Nat) (t : Addr) (q : Int32) (cap N : Nat) (ps : List (Int32 × Nat)) (fc : Int64) (T : Tal Z h0 n0 t cap ps fc) (hs : Srt ps) (hc : Cts N ps) (hN : N ≤ 4) (hcap : cap ≤ 2 * N + 1) (hf : FI fc ps) (hq : ¬ q < 0) :
    Con l Z y11 prog_1_method_4_code 3 ((some .boolean)) ({ frames := 2, cells := 0, slots := 0, locals := 60 } : Room) [] #[(.ref t), (.int q)] h0 n0 (fun v h => h = h0 ∧ ∃ r, v = some (.int r) ∧ ((r = 1 ∧ 0 < cnt ps q) ∨ (r = 0 ∧ ¬ 0 < cnt ps q))) := by
  refine Con.of_go pn11 (ls := #[.val (.ref t), .val (.int q), .unset]) (fun m => by first | (simp [entryFrame, mkF, argsToLocals, Value.category]; done) | rfl) ?_
  intro κ D
  obtain ⟨ca, na, ka, kb, jc, jn, F, Ac, An, hjc, hjn, ncn, nc, nn, gt, gc, gn⟩ := T
  have hlen := hc.1
  refine Go.iloadN D (pc' := 1) d11_0 rfl rfl ?_
  refine Go.bipush D (pc' := 3) d11_1 rfl (v := (64 : Int32)) rfl ?_
  refine Go.icmp D (pc' := 28) (pc2 := 6) d11_3 (by decide) (by decide) rfl ?_ ?_
  · intro (hc3 : ¬ q < (64 : Int32))
    refine Go.aloadN D (pc' := 29) d11_28 rfl rfl rfl ?_
    refine Go.getF D (pc' := 32) (hw _ (List.mem_of_getElem? (i := 14) rfl)) d11_29 rfl F.2.1 ?_
    refine Go.iconst D (pc' := 33) d11_32 rfl (v := (0 : Int32)) rfl ?_
    refine Go.aloadN D (pc' := 34) d11_33 rfl rfl rfl ?_
    refine Go.getF D (pc' := 37) (hw _ (List.mem_of_getElem? (i := 23) rfl)) d11_34 rfl F.2.2.2.1 ?_
    refine Go.iloadN D (pc' := 38) d11_37 rfl rfl ?_
    refine Go.callS D (argsL := [(.ref ca), (.int (0 : Int32)), (.int (Int32.ofNat ps.length)), (.int q)]) (rest := []) (pc' := 41) (ce' := 0) (sl' := 0) (con_bs l Z a0 hw h0 n0 ca ka cap ps jc Ac hs (by omega) (by omega) q) (hw _ (List.mem_of_getElem? (i := 25) rfl)) (hw _ (List.mem_of_getElem? (i := 26) rfl)) (hw _ (List.mem_of_getElem? (i := 27) rfl)) (hw _ (List.mem_of_getElem? (i := 28) rfl)) (by decide) d11_38 rfl pd5 rfl rfl rfl (by decide) (W := 0) rfl (by decide) (by decide) (by decide) (by decide) (by decide) ?_
    intro v38 h1 q38
    obtain ⟨rfl, r, rfl, hr⟩ := q38
    show Go κ h1 0 0 41 #[.val (.ref t), .val (.int q), .unset] [(.int r)]
    refine Go.ifc D (pc' := 48) (pc2 := 44) d11_41 (by decide) (by decide) rfl ?_ ?_
    · intro (hc41 : r < 0)
      refine Go.iconst D (pc' := 49) d11_48 rfl (v := (0 : Int32)) rfl ?_
      refine Go.istoreN D (pc' := 50) d11_49 rfl (ls' := #[.val (.ref t), .val (.int q), .val (.int (0 : Int32))]) rfl ?_
      refine Go.iloadN D (pc' := 51) d11_50 rfl rfl ?_
      refine Go.zret D rfl rfl d11_51 (by decide) (by decide) ?_
      refine ⟨rfl, _, rfl, Or.inr ⟨rfl, ?_⟩⟩
      rcases hr with ⟨A, n, B, rfl, rfl⟩ | hr0
      · exact absurd hc41 (own_nn (by simp at hlen; omega))
      · have := bs_cnt hr0; omega
    · intro (hc41 : ¬ r < 0)
      refine Go.iconst D (pc' := 45) d11_44 rfl (v := (1 : Int32)) rfl ?_
      refine Go.goto D (pc' := 49) d11_45 (by decide) (by decide) ?_
      refine Go.istoreN D (pc' := 50) d11_49 rfl (ls' := #[.val (.ref t), .val (.int q), .val (.int (1 : Int32))]) rfl ?_
      refine Go.iloadN D (pc' := 51) d11_50 rfl rfl ?_
      refine Go.zret D rfl rfl d11_51 (by decide) (by decide) ?_
      refine ⟨rfl, _, rfl, Or.inl ⟨rfl, ?_⟩⟩
      rcases hr with ⟨A, n, B, rfl, rfl⟩ | ⟨A, B, rfl, z1, z2, rfl⟩
      · have := hc.2 (q, n) (by simp)
        rw [cnt_at hs]; exact this.1
      · exact absurd (own_neg (by simp at hlen; omega)) hc41
  · intro (hc3 : q < (64 : Int32))
    refine Go.aloadN D (pc' := 7) d11_6 rfl rfl rfl ?_
    refine Go.getF D (pc' := 10) (hw _ (List.mem_of_getElem? (i := 39) rfl)) d11_7 rfl F.2.2.2.2 ?_
    refine Go.lconst D (pc' := 11) d11_10 rfl (v := (1 : Int64)) rfl ?_
    refine Go.iloadN D (pc' := 12) d11_11 rfl rfl ?_
    refine Go.lshl D (pc' := 13) d11_12 rfl  ?_
    refine Go.land D (pc' := 14) d11_13 rfl  ?_
    refine Go.lconst D (pc' := 15) d11_14 rfl (v := (0 : Int64)) rfl ?_
    refine Go.lcmp D (pc' := 16) d11_15 rfl  ?_
    refine Go.ifc D (pc' := 23) (pc2 := 19) d11_16 (by decide) (by decide) rfl ?_ ?_
    · intro (hc16 : (cmpL (fc &&& ((1 : Int64) <<< (q &&& 63).toInt64)) (0 : Int64)) = 0)
      refine Go.iconst D (pc' := 24) d11_23 rfl (v := (0 : Int32)) rfl ?_
      refine Go.istoreN D (pc' := 25) d11_24 rfl (ls' := #[.val (.ref t), .val (.int q), .val (.int (0 : Int32))]) rfl ?_
      refine Go.goto D (pc' := 50) d11_25 (by decide) (by decide) ?_
      refine Go.iloadN D (pc' := 51) d11_50 rfl rfl ?_
      refine Go.zret D rfl rfl d11_51 (by decide) (by decide) ?_
      have hb := hf q hq hc3
      have hz : cmpL (fc &&& (1 : Int64) <<< (q &&& 63).toInt64) 0 = 0 ↔ ¬ Bt fc q := by
        unfold Bt
        generalize (fc &&& (1 : Int64) <<< (q &&& 63).toInt64) = w
        by_cases z : w > 0
        · have z2 : ¬ w = 0 := fun e => by rw [e] at z; exact absurd z (by decide)
          simp [cmpL, z, z2]
        · by_cases z2 : w = 0 <;> simp [cmpL, z, z2]
      exact ⟨rfl, _, rfl, Or.inr ⟨rfl, by rw [← hb]; exact hz.mp hc16⟩⟩
    · intro (hc16 : ¬ (cmpL (fc &&& ((1 : Int64) <<< (q &&& 63).toInt64)) (0 : Int64)) = 0)
      refine Go.iconst D (pc' := 20) d11_19 rfl (v := (1 : Int32)) rfl ?_
      refine Go.goto D (pc' := 24) d11_20 (by decide) (by decide) ?_
      refine Go.istoreN D (pc' := 25) d11_24 rfl (ls' := #[.val (.ref t), .val (.int q), .val (.int (1 : Int32))]) rfl ?_
      refine Go.goto D (pc' := 50) d11_25 (by decide) (by decide) ?_
      refine Go.iloadN D (pc' := 51) d11_50 rfl rfl ?_
      refine Go.zret D rfl rfl d11_51 (by decide) (by decide) ?_
      have hb := hf q hq hc3
      have hz : cmpL (fc &&& (1 : Int64) <<< (q &&& 63).toInt64) 0 = 0 ↔ ¬ Bt fc q := by
        unfold Bt
        generalize (fc &&& (1 : Int64) <<< (q &&& 63).toInt64) = w
        by_cases z : w > 0
        · have z2 : ¬ w = 0 := fun e => by rw [e] at z; exact absurd z (by decide)
          simp [cmpL, z, z2]
        · by_cases z2 : w = 0 <;> simp [cmpL, z, z2]
      exact ⟨rfl, _, rfl, Or.inl ⟨rfl, hb.mp (Classical.byContradiction fun z => hc16 (hz.mpr z))⟩⟩
theorem pd0 : parseMethodDescriptor "(IIIII)Z" = some ⟨[.int, .int, .int, .int, .int], (some .boolean)⟩ := by decide +kernel
theorem pn0 : plainFor x = true := by first | exact plainFor_of_name (by first | (simp [plainName, overriddenIn]; done) | decide +kernel) | decide +kernel | rfl
set_option maxRecDepth 65536 in
set_option maxHeartbeats 40000000 in
theorem con_law (l : Launch) (Z : State) (a0 : Array Value) (hw : ∀ d ∈ tables_1, d.before a0 Z = true) (h0 : Heap) (n0 : Nat) (Z0 : n0 ≤ h0.size) (x0 x1 x2 x3 fl : Int32) :
    Con l Z x code maxLocals ret room_1 tables_1 #[(.int x0), (.int x1), (.int x2), (.int x3), (.int fl)] h0 n0 (fun v h => v = some (.int 1)) := by
  refine Con.of_go pn0 (ls := #[.val (.int x0), .val (.int x1), .val (.int x2), .val (.int x3), .val (.int fl), .unset, .unset, .unset, .unset, .unset, .unset, .unset, .unset, .unset]) (fun m => by first | (simp [entryFrame, mkF, argsToLocals, Value.category, maxLocals]; done) | rfl) ?_
  intro κ D
  refine Go.iloadN D (pc' := 1) at_0 rfl rfl ?_
  refine Go.callS D (argsL := [(.int x0)]) (rest := []) (pc' := 4) (ce' := 0) (sl' := 0) (con_code l Z a0 hw h0 n0 x0) (hw _ (List.mem_of_getElem? (i := 0) rfl)) (hw _ (List.mem_of_getElem? (i := 1) rfl)) (hw _ (List.mem_of_getElem? (i := 2) rfl)) (hw _ (List.mem_of_getElem? (i := 3) rfl)) (by decide) at_1 rfl pd1 rfl rfl rfl (by decide) (W := 0) rfl (by decide) (by decide) (by decide) (by decide) (by decide) ?_
  intro v1 h1 q1
  obtain ⟨rfl, a, rfl, na⟩ := q1
  show Go κ h1 0 0 4 #[.val (.int x0), .val (.int x1), .val (.int x2), .val (.int x3), .val (.int fl), .unset, .unset, .unset, .unset, .unset, .unset, .unset, .unset, .unset] [(.int a)]
  refine Go.istore D (pc' := 6) at_4 rfl (ls' := #[.val (.int x0), .val (.int x1), .val (.int x2), .val (.int x3), .val (.int fl), .val (.int a), .unset, .unset, .unset, .unset, .unset, .unset, .unset, .unset]) rfl ?_
  refine Go.iloadN D (pc' := 7) at_6 rfl rfl ?_
  refine Go.callS D (argsL := [(.int x1)]) (rest := []) (pc' := 10) (ce' := 0) (sl' := 0) (con_code l Z a0 hw h1 n0 x1) (hw _ (List.mem_of_getElem? (i := 0) rfl)) (hw _ (List.mem_of_getElem? (i := 1) rfl)) (hw _ (List.mem_of_getElem? (i := 2) rfl)) (hw _ (List.mem_of_getElem? (i := 3) rfl)) (by decide) at_7 rfl pd1 rfl rfl rfl (by decide) (W := 0) rfl (by decide) (by decide) (by decide) (by decide) (by decide) ?_
  intro v7 h7 q7
  obtain ⟨rfl, b, rfl, nb⟩ := q7
  show Go κ h7 0 0 10 #[.val (.int x0), .val (.int x1), .val (.int x2), .val (.int x3), .val (.int fl), .val (.int a), .unset, .unset, .unset, .unset, .unset, .unset, .unset, .unset] [(.int b)]
  refine Go.istore D (pc' := 12) at_10 rfl (ls' := #[.val (.int x0), .val (.int x1), .val (.int x2), .val (.int x3), .val (.int fl), .val (.int a), .val (.int b), .unset, .unset, .unset, .unset, .unset, .unset, .unset]) rfl ?_
  refine Go.iloadN D (pc' := 13) at_12 rfl rfl ?_
  refine Go.callS D (argsL := [(.int x2)]) (rest := []) (pc' := 16) (ce' := 0) (sl' := 0) (con_code l Z a0 hw h7 n0 x2) (hw _ (List.mem_of_getElem? (i := 0) rfl)) (hw _ (List.mem_of_getElem? (i := 1) rfl)) (hw _ (List.mem_of_getElem? (i := 2) rfl)) (hw _ (List.mem_of_getElem? (i := 3) rfl)) (by decide) at_13 rfl pd1 rfl rfl rfl (by decide) (W := 0) rfl (by decide) (by decide) (by decide) (by decide) (by decide) ?_
  intro v13 h13 q13
  obtain ⟨rfl, c, rfl, nc⟩ := q13
  show Go κ h13 0 0 16 #[.val (.int x0), .val (.int x1), .val (.int x2), .val (.int x3), .val (.int fl), .val (.int a), .val (.int b), .unset, .unset, .unset, .unset, .unset, .unset, .unset] [(.int c)]
  refine Go.istore D (pc' := 18) at_16 rfl (ls' := #[.val (.int x0), .val (.int x1), .val (.int x2), .val (.int x3), .val (.int fl), .val (.int a), .val (.int b), .val (.int c), .unset, .unset, .unset, .unset, .unset, .unset]) rfl ?_
  refine Go.iload D (pc' := 20) at_18 rfl rfl ?_
  refine Go.iconst D (pc' := 21) at_20 rfl (v := (2 : Int32)) rfl ?_
  refine Go.iushr D (pc' := 22) at_21 rfl  ?_
  refine Go.iconst D (pc' := 23) at_22 rfl (v := (3 : Int32)) rfl ?_
  refine Go.iand D (pc' := 24) at_23 rfl  ?_
  refine Go.istore D (pc' := 26) at_24 rfl (ls' := #[.val (.int x0), .val (.int x1), .val (.int x2), .val (.int x3), .val (.int fl), .val (.int a), .val (.int b), .val (.int c), .val (.int ((ushr fl (2 : Int32)) &&& (3 : Int32))), .unset, .unset, .unset, .unset, .unset]) rfl ?_
  have J62 : ∀ q : Int32, ¬ q < 0 → Go κ h13 0 0 62 #[.val (.int x0), .val (.int x1), .val (.int x2), .val (.int x3), .val (.int fl), .val (.int a), .val (.int b), .val (.int c), .val (.int ((ushr fl (2 : Int32)) &&& (3 : Int32))), .unset, .unset, .unset, .unset, .unset] [.int q] := by
    intro q hq
    refine Go.istore D (pc' := 64) at_62 rfl (ls' := #[.val (.int x0), .val (.int x1), .val (.int x2), .val (.int x3), .val (.int fl), .val (.int a), .val (.int b), .val (.int c), .val (.int ((ushr fl (2 : Int32)) &&& (3 : Int32))), .val (.int q), .unset, .unset, .unset, .unset]) rfl ?_
    refine Go.iload D (pc' := 66) at_64 rfl rfl ?_
    refine Go.iconst D (pc' := 67) at_66 rfl (v := (1 : Int32)) rfl ?_
    refine Go.iand D (pc' := 68) at_67 rfl  ?_
    refine Go.ifc D (pc' := 75) (pc2 := 71) at_68 (by decide) (by decide) rfl ?_ ?_
    · intro (hc68 : (fl &&& (1 : Int32)) = 0)
      refine Go.iconst D (pc' := 76) at_75 rfl (v := (0 : Int32)) rfl ?_
      refine Go.istore D (pc' := 78) at_76 rfl (ls' := #[.val (.int x0), .val (.int x1), .val (.int x2), .val (.int x3), .val (.int fl), .val (.int a), .val (.int b), .val (.int c), .val (.int ((ushr fl (2 : Int32)) &&& (3 : Int32))), .val (.int q), .val (.int (0 : Int32)), .unset, .unset, .unset]) rfl ?_
      refine Go.iload D (pc' := 80) at_78 rfl rfl ?_
      refine Go.iconst D (pc' := 81) at_80 rfl (v := (2 : Int32)) rfl ?_
      refine Go.iand D (pc' := 82) at_81 rfl  ?_
      refine Go.ifc D (pc' := 89) (pc2 := 85) at_82 (by decide) (by decide) rfl ?_ ?_
      · intro (hc82 : (fl &&& (2 : Int32)) = 0)
        refine Go.iconst D (pc' := 90) at_89 rfl (v := (0 : Int32)) rfl ?_
        refine Go.istore D (pc' := 92) at_90 rfl (ls' := #[.val (.int x0), .val (.int x1), .val (.int x2), .val (.int x3), .val (.int fl), .val (.int a), .val (.int b), .val (.int c), .val (.int ((ushr fl (2 : Int32)) &&& (3 : Int32))), .val (.int q), .val (.int (0 : Int32)), .val (.int (0 : Int32)), .unset, .unset]) rfl ?_
        refine Go.newO D (pc' := 95) (ce' := 1) (sl' := 4) (hw _ (List.mem_of_getElem? (i := 4) rfl)) (hw _ (List.mem_of_getElem? (i := 5) rfl)) (hw _ (List.mem_of_getElem? (i := 6) rfl)) at_92 rfl rfl rfl (by decide) (by decide) ?_
        intro h1 t gt E1 X1 Dd
        have F1 : FB Z h1 t .null .null 0 0 := ⟨X1, Dd (Or.inl (hw _ (List.mem_of_getElem? (i := 15) rfl))) (ty := .array .int) (by decide), Dd (Or.inl (hw _ (List.mem_of_getElem? (i := 17) rfl))) (ty := .array .int) (by decide), Dd (Or.inl (hw _ (List.mem_of_getElem? (i := 24) rfl))) (ty := .int) (by decide), Dd (Or.inl (hw _ (List.mem_of_getElem? (i := 40) rfl))) (ty := .long) (by decide)⟩
        refine Go.dup D (pc' := 96) at_95 rfl rfl ?_
        refine Go.callI D (argsL := []) (rest := [(.ref t)]) (pc' := 99) (ce' := 3) (sl' := 6) (con_init l Z a0 hw h1 n0 (Nat.le_trans Z0 E1.1) t (by omega) F1) rfl (hw _ (List.mem_of_getElem? (i := 7) rfl)) (hw _ (List.mem_of_getElem? (i := 8) rfl)) (hw _ (List.mem_of_getElem? (i := 6) rfl)) (hw _ (List.mem_of_getElem? (i := 9) rfl)) (by decide) at_96 rfl pd2 rfl rfl rfl (by decide) (W := 1) rfl (by decide) (by decide) (by decide) (by decide) (by decide) ?_
        intro v96 h2 q96
        obtain ⟨rfl, T2⟩ := q96
        show Go κ h2 3 6 99 #[.val (.int x0), .val (.int x1), .val (.int x2), .val (.int x3), .val (.int fl), .val (.int a), .val (.int b), .val (.int c), .val (.int ((ushr fl (2 : Int32)) &&& (3 : Int32))), .val (.int q), .val (.int (0 : Int32)), .val (.int (0 : Int32)), .unset, .unset] [(.ref t)]
        have s2 : Srt [] := List.Pairwise.nil
        have c2 : Cts 0 [] := ⟨Nat.le_refl _, fun p hp => absurd hp (by simp)⟩
        refine Go.astore D (pc' := 101) at_99 rfl rfl (ls' := #[.val (.int x0), .val (.int x1), .val (.int x2), .val (.int x3), .val (.int fl), .val (.int a), .val (.int b), .val (.int c), .val (.int ((ushr fl (2 : Int32)) &&& (3 : Int32))), .val (.int q), .val (.int (0 : Int32)), .val (.int (0 : Int32)), .val (.ref t), .unset]) rfl ?_
        refine Go.aload D (pc' := 103) at_101 rfl rfl rfl ?_
        refine Go.iload D (pc' := 105) at_103 rfl rfl ?_
        refine Go.callV D (argsL := [(.int a)]) (rest := []) (pc' := 108) (ce' := 5) (sl' := 22) (con_add l Z a0 hw h2 n0 T2.sz t a _ 0 _ _ T2 s2 c2 (by decide) (by decide : 1 ≤ 2 * 0 + 1) (by decide : 0 < 1)) (hw _ (List.mem_of_getElem? (i := 18) rfl)) (hw _ (List.mem_of_getElem? (i := 19) rfl)) (hw _ (List.mem_of_getElem? (i := 21) rfl)) (hw _ (List.mem_of_getElem? (i := 20) rfl)) (hw _ (List.mem_of_getElem? (i := 6) rfl)) (hw _ (List.mem_of_getElem? (i := 22) rfl)) (nfS (hw _ (List.mem_of_getElem? (i := 21) rfl))) (by decide) T2.exa at_105 rfl pd4 rfl rfl rfl (by decide) (W := 0) rfl (by decide) (by decide) (by decide) (by decide) (by decide) ?_
        intro v105 h105 q105
        obtain ⟨rfl, cap105, ps105, fc105, T105, s105, c105, e105, b105, f105⟩ := q105
        show Go κ h105 5 22 108 #[.val (.int x0), .val (.int x1), .val (.int x2), .val (.int x3), .val (.int fl), .val (.int a), .val (.int b), .val (.int c), .val (.int ((ushr fl (2 : Int32)) &&& (3 : Int32))), .val (.int q), .val (.int (0 : Int32)), .val (.int (0 : Int32)), .val (.ref t), .unset] []
        refine Go.aload D (pc' := 110) at_108 rfl rfl rfl ?_
        refine Go.iload D (pc' := 112) at_110 rfl rfl ?_
        refine Go.callV D (argsL := [(.int b)]) (rest := []) (pc' := 115) (ce' := 7) (sl' := 38) (con_add l Z a0 hw h105 n0 T105.sz t b _ 1 _ _ T105 s105 c105 (by decide) b105.2 b105.1) (hw _ (List.mem_of_getElem? (i := 18) rfl)) (hw _ (List.mem_of_getElem? (i := 19) rfl)) (hw _ (List.mem_of_getElem? (i := 21) rfl)) (hw _ (List.mem_of_getElem? (i := 20) rfl)) (hw _ (List.mem_of_getElem? (i := 6) rfl)) (hw _ (List.mem_of_getElem? (i := 22) rfl)) (nfS (hw _ (List.mem_of_getElem? (i := 21) rfl))) (by decide) T105.exa at_112 rfl pd4 rfl rfl rfl (by decide) (W := 0) rfl (by decide) (by decide) (by decide) (by decide) (by decide) ?_
        intro v112 h112 q112
        obtain ⟨rfl, cap112, ps112, fc112, T112, s112, c112, e112, b112, f112⟩ := q112
        show Go κ h112 7 38 115 #[.val (.int x0), .val (.int x1), .val (.int x2), .val (.int x3), .val (.int fl), .val (.int a), .val (.int b), .val (.int c), .val (.int ((ushr fl (2 : Int32)) &&& (3 : Int32))), .val (.int q), .val (.int (0 : Int32)), .val (.int (0 : Int32)), .val (.ref t), .unset] []
        refine Go.aload D (pc' := 117) at_115 rfl rfl rfl ?_
        refine Go.iload D (pc' := 119) at_117 rfl rfl ?_
        refine Go.callV D (argsL := [(.int c)]) (rest := []) (pc' := 122) (ce' := 9) (sl' := 54) (con_add l Z a0 hw h112 n0 T112.sz t c _ 2 _ _ T112 s112 c112 (by decide) b112.2 b112.1) (hw _ (List.mem_of_getElem? (i := 18) rfl)) (hw _ (List.mem_of_getElem? (i := 19) rfl)) (hw _ (List.mem_of_getElem? (i := 21) rfl)) (hw _ (List.mem_of_getElem? (i := 20) rfl)) (hw _ (List.mem_of_getElem? (i := 6) rfl)) (hw _ (List.mem_of_getElem? (i := 22) rfl)) (nfS (hw _ (List.mem_of_getElem? (i := 21) rfl))) (by decide) T112.exa at_119 rfl pd4 rfl rfl rfl (by decide) (W := 0) rfl (by decide) (by decide) (by decide) (by decide) (by decide) ?_
        intro v119 h119 q119
        obtain ⟨rfl, cap119, ps119, fc119, T119, s119, c119, e119, b119, f119⟩ := q119
        show Go κ h119 9 54 122 #[.val (.int x0), .val (.int x1), .val (.int x2), .val (.int x3), .val (.int fl), .val (.int a), .val (.int b), .val (.int c), .val (.int ((ushr fl (2 : Int32)) &&& (3 : Int32))), .val (.int q), .val (.int (0 : Int32)), .val (.int (0 : Int32)), .val (.ref t), .unset] []
        refine Go.iload D (pc' := 124) at_122 rfl rfl ?_
        refine Go.iload D (pc' := 126) at_124 rfl rfl ?_
        refine Go.callS D (argsL := [(.int q), (.int a)]) (rest := []) (pc' := 129) (ce' := 9) (sl' := 54) (con_eq l Z a0 hw h119 n0 q a) (hw _ (List.mem_of_getElem? (i := 49) rfl)) (hw _ (List.mem_of_getElem? (i := 50) rfl)) (hw _ (List.mem_of_getElem? (i := 2) rfl)) (hw _ (List.mem_of_getElem? (i := 51) rfl)) (by decide) at_126 rfl pd10 rfl rfl rfl (by decide) (W := 0) rfl (by decide) (by decide) (by decide) (by decide) (by decide) ?_
        intro v126 h126 q126
        obtain ⟨rfl, r126, rfl, hr126⟩ := q126
        show Go κ h126 9 54 129 #[.val (.int x0), .val (.int x1), .val (.int x2), .val (.int x3), .val (.int fl), .val (.int a), .val (.int b), .val (.int c), .val (.int ((ushr fl (2 : Int32)) &&& (3 : Int32))), .val (.int q), .val (.int (0 : Int32)), .val (.int (0 : Int32)), .val (.ref t), .unset] [(.int r126)]
        refine Go.iload D (pc' := 131) at_129 rfl rfl ?_
        refine Go.iload D (pc' := 133) at_131 rfl rfl ?_
        refine Go.callS D (argsL := [(.int q), (.int b)]) (rest := [(.int r126)]) (pc' := 136) (ce' := 9) (sl' := 54) (con_eq l Z a0 hw h126 n0 q b) (hw _ (List.mem_of_getElem? (i := 49) rfl)) (hw _ (List.mem_of_getElem? (i := 50) rfl)) (hw _ (List.mem_of_getElem? (i := 2) rfl)) (hw _ (List.mem_of_getElem? (i := 51) rfl)) (by decide) at_133 rfl pd10 rfl rfl rfl (by decide) (W := 1) rfl (by decide) (by decide) (by decide) (by decide) (by decide) ?_
        intro v133 h133 q133
        obtain ⟨rfl, r133, rfl, hr133⟩ := q133
        show Go κ h133 9 54 136 #[.val (.int x0), .val (.int x1), .val (.int x2), .val (.int x3), .val (.int fl), .val (.int a), .val (.int b), .val (.int c), .val (.int ((ushr fl (2 : Int32)) &&& (3 : Int32))), .val (.int q), .val (.int (0 : Int32)), .val (.int (0 : Int32)), .val (.ref t), .unset] [(.int r133), (.int r126)]
        refine Go.iadd D (pc' := 137) at_136 rfl  ?_
        refine Go.iload D (pc' := 139) at_137 rfl rfl ?_
        refine Go.iload D (pc' := 141) at_139 rfl rfl ?_
        refine Go.callS D (argsL := [(.int q), (.int c)]) (rest := [(.int (r126 + r133))]) (pc' := 144) (ce' := 9) (sl' := 54) (con_eq l Z a0 hw h133 n0 q c) (hw _ (List.mem_of_getElem? (i := 49) rfl)) (hw _ (List.mem_of_getElem? (i := 50) rfl)) (hw _ (List.mem_of_getElem? (i := 2) rfl)) (hw _ (List.mem_of_getElem? (i := 51) rfl)) (by decide) at_141 rfl pd10 rfl rfl rfl (by decide) (W := 1) rfl (by decide) (by decide) (by decide) (by decide) (by decide) ?_
        intro v141 h141 q141
        obtain ⟨rfl, r141, rfl, hr141⟩ := q141
        show Go κ h141 9 54 144 #[.val (.int x0), .val (.int x1), .val (.int x2), .val (.int x3), .val (.int fl), .val (.int a), .val (.int b), .val (.int c), .val (.int ((ushr fl (2 : Int32)) &&& (3 : Int32))), .val (.int q), .val (.int (0 : Int32)), .val (.int (0 : Int32)), .val (.ref t), .unset] [(.int r141), (.int (r126 + r133))]
        refine Go.iadd D (pc' := 145) at_144 rfl  ?_
        refine Go.istore D (pc' := 147) at_145 rfl (ls' := #[.val (.int x0), .val (.int x1), .val (.int x2), .val (.int x3), .val (.int fl), .val (.int a), .val (.int b), .val (.int c), .val (.int ((ushr fl (2 : Int32)) &&& (3 : Int32))), .val (.int q), .val (.int (0 : Int32)), .val (.int (0 : Int32)), .val (.ref t), .val (.int ((r126 + r133) + r141))]) rfl ?_
        refine Go.iload D (pc' := 149) at_147 rfl rfl ?_
        refine Go.ifc D (pc' := 171) (pc2 := 152) at_149 (by decide) (by decide) rfl (fun _ => ?_) (fun (hc : ¬ (0 : Int32) = 0) => absurd hc (by decide))
        refine Go.iload D (pc' := 173) at_171 rfl rfl ?_
        refine Go.ifc D (pc' := 195) (pc2 := 176) at_173 (by decide) (by decide) rfl (fun _ => ?_) (fun (hc : ¬ (0 : Int32) = 0) => absurd hc (by decide))
        refine Go.aload D (pc' := 197) at_195 rfl rfl rfl ?_
        refine Go.iload D (pc' := 199) at_197 rfl rfl ?_
        have fi0 : FI 0 [] := FI.start
        have fi1 := FI.add fi0 na e105 f105
        have fi2 := FI.add fi1 nb e112 f112
        have fi3 := FI.add fi2 nc e119 f119
        refine Go.callV D (argsL := [(.int q)]) (rest := []) (pc' := 202) (ce' := 9) (sl' := 54) (con_holds l Z a0 hw h141 n0 t q _ 3 _ _ T119 s119 c119 (by decide) b119.2 fi3 hq) (hw _ (List.mem_of_getElem? (i := 52) rfl)) (hw _ (List.mem_of_getElem? (i := 53) rfl)) (hw _ (List.mem_of_getElem? (i := 55) rfl)) (hw _ (List.mem_of_getElem? (i := 54) rfl)) (hw _ (List.mem_of_getElem? (i := 6) rfl)) (hw _ (List.mem_of_getElem? (i := 56) rfl)) (nfS (hw _ (List.mem_of_getElem? (i := 55) rfl))) (by decide) T119.exa at_199 rfl pd11 rfl rfl rfl (by decide) (W := 0) rfl (by decide) (by decide) (by decide) (by decide) (by decide) ?_
        intro v199 h199 q199
        obtain ⟨rfl, u, rfl, hu⟩ := q199
        show Go κ h199 9 54 202 #[.val (.int x0), .val (.int x1), .val (.int x2), .val (.int x3), .val (.int fl), .val (.int a), .val (.int b), .val (.int c), .val (.int ((ushr fl (2 : Int32)) &&& (3 : Int32))), .val (.int q), .val (.int (0 : Int32)), .val (.int (0 : Int32)), .val (.ref t), .val (.int ((r126 + r133) + r141))] [(.int u)]
        have fin : 0 < ((r126 + r133) + r141) ↔ 0 < cnt ps119 q := by
          have q0 := own_add (e105 q)
          have q1 := own_add (e112 q)
          have q2 := own_add (e119 q)
          rcases hr126 with ⟨g0, rfl⟩ | ⟨g0, rfl⟩ <;> rcases hr133 with ⟨g1, rfl⟩ | ⟨g1, rfl⟩ <;> rcases hr141 with ⟨g2, rfl⟩ | ⟨g2, rfl⟩ <;> simp only [← Int32.toInt_inj, true_and, not_true_eq_false, false_and, or_false, false_or, cnt] at g0 g1 g2 q0 q1 q2 <;> first | exact ⟨fun _ => by omega, fun _ => by decide⟩ | exact ⟨fun z => absurd z (by decide), fun z => absurd z (by omega)⟩ | omega
        refine Go.iload D (pc' := 204) at_202 rfl rfl ?_
        refine Go.ifc D (pc' := 211) (pc2 := 207) at_204 (by decide) (by decide) rfl ?_ ?_
        · intro (hc204 : ¬ 0 < ((r126 + r133) + r141))
          refine Go.iconst D (pc' := 212) at_211 rfl (v := (0 : Int32)) rfl ?_
          refine Go.icmp D (pc' := 219) (pc2 := 215) at_212 (by decide) (by decide) rfl ?_ ?_
          · intro (hc212 : ¬ u = (0 : Int32))
            exact absurd (hu.elim (fun z => absurd (fin.mpr z.2) hc204) (fun z => z.1)) hc212
          · intro (hc212 : u = (0 : Int32))
            refine Go.iconst D (pc' := 216) at_215 rfl (v := (1 : Int32)) rfl ?_
            refine Go.goto D (pc' := 220) at_216 (by decide) (by decide) ?_
            refine Go.zret D rfl rfl at_220 (by decide) (by decide) ?_
            exact rfl
        · intro (hc204 : 0 < ((r126 + r133) + r141))
          refine Go.iconst D (pc' := 208) at_207 rfl (v := (1 : Int32)) rfl ?_
          refine Go.goto D (pc' := 212) at_208 (by decide) (by decide) ?_
          refine Go.icmp D (pc' := 219) (pc2 := 215) at_212 (by decide) (by decide) rfl ?_ ?_
          · intro (hc212 : ¬ u = (1 : Int32))
            exact absurd (hu.elim (fun z => z.1) (fun z => absurd (fin.mp hc204) z.2)) hc212
          · intro (hc212 : u = (1 : Int32))
            refine Go.iconst D (pc' := 216) at_215 rfl (v := (1 : Int32)) rfl ?_
            refine Go.goto D (pc' := 220) at_216 (by decide) (by decide) ?_
            refine Go.zret D rfl rfl at_220 (by decide) (by decide) ?_
            exact rfl
      · intro (hc82 : ¬ (fl &&& (2 : Int32)) = 0)
        refine Go.iconst D (pc' := 86) at_85 rfl (v := (1 : Int32)) rfl ?_
        refine Go.goto D (pc' := 90) at_86 (by decide) (by decide) ?_
        refine Go.istore D (pc' := 92) at_90 rfl (ls' := #[.val (.int x0), .val (.int x1), .val (.int x2), .val (.int x3), .val (.int fl), .val (.int a), .val (.int b), .val (.int c), .val (.int ((ushr fl (2 : Int32)) &&& (3 : Int32))), .val (.int q), .val (.int (0 : Int32)), .val (.int (1 : Int32)), .unset, .unset]) rfl ?_
        refine Go.newO D (pc' := 95) (ce' := 1) (sl' := 4) (hw _ (List.mem_of_getElem? (i := 4) rfl)) (hw _ (List.mem_of_getElem? (i := 5) rfl)) (hw _ (List.mem_of_getElem? (i := 6) rfl)) at_92 rfl rfl rfl (by decide) (by decide) ?_
        intro h1 t gt E1 X1 Dd
        have F1 : FB Z h1 t .null .null 0 0 := ⟨X1, Dd (Or.inl (hw _ (List.mem_of_getElem? (i := 15) rfl))) (ty := .array .int) (by decide), Dd (Or.inl (hw _ (List.mem_of_getElem? (i := 17) rfl))) (ty := .array .int) (by decide), Dd (Or.inl (hw _ (List.mem_of_getElem? (i := 24) rfl))) (ty := .int) (by decide), Dd (Or.inl (hw _ (List.mem_of_getElem? (i := 40) rfl))) (ty := .long) (by decide)⟩
        refine Go.dup D (pc' := 96) at_95 rfl rfl ?_
        refine Go.callI D (argsL := []) (rest := [(.ref t)]) (pc' := 99) (ce' := 3) (sl' := 6) (con_init l Z a0 hw h1 n0 (Nat.le_trans Z0 E1.1) t (by omega) F1) rfl (hw _ (List.mem_of_getElem? (i := 7) rfl)) (hw _ (List.mem_of_getElem? (i := 8) rfl)) (hw _ (List.mem_of_getElem? (i := 6) rfl)) (hw _ (List.mem_of_getElem? (i := 9) rfl)) (by decide) at_96 rfl pd2 rfl rfl rfl (by decide) (W := 1) rfl (by decide) (by decide) (by decide) (by decide) (by decide) ?_
        intro v96 h2 q96
        obtain ⟨rfl, T2⟩ := q96
        show Go κ h2 3 6 99 #[.val (.int x0), .val (.int x1), .val (.int x2), .val (.int x3), .val (.int fl), .val (.int a), .val (.int b), .val (.int c), .val (.int ((ushr fl (2 : Int32)) &&& (3 : Int32))), .val (.int q), .val (.int (0 : Int32)), .val (.int (1 : Int32)), .unset, .unset] [(.ref t)]
        have s2 : Srt [] := List.Pairwise.nil
        have c2 : Cts 0 [] := ⟨Nat.le_refl _, fun p hp => absurd hp (by simp)⟩
        refine Go.astore D (pc' := 101) at_99 rfl rfl (ls' := #[.val (.int x0), .val (.int x1), .val (.int x2), .val (.int x3), .val (.int fl), .val (.int a), .val (.int b), .val (.int c), .val (.int ((ushr fl (2 : Int32)) &&& (3 : Int32))), .val (.int q), .val (.int (0 : Int32)), .val (.int (1 : Int32)), .val (.ref t), .unset]) rfl ?_
        refine Go.aload D (pc' := 103) at_101 rfl rfl rfl ?_
        refine Go.iload D (pc' := 105) at_103 rfl rfl ?_
        refine Go.callV D (argsL := [(.int a)]) (rest := []) (pc' := 108) (ce' := 5) (sl' := 22) (con_add l Z a0 hw h2 n0 T2.sz t a _ 0 _ _ T2 s2 c2 (by decide) (by decide : 1 ≤ 2 * 0 + 1) (by decide : 0 < 1)) (hw _ (List.mem_of_getElem? (i := 18) rfl)) (hw _ (List.mem_of_getElem? (i := 19) rfl)) (hw _ (List.mem_of_getElem? (i := 21) rfl)) (hw _ (List.mem_of_getElem? (i := 20) rfl)) (hw _ (List.mem_of_getElem? (i := 6) rfl)) (hw _ (List.mem_of_getElem? (i := 22) rfl)) (nfS (hw _ (List.mem_of_getElem? (i := 21) rfl))) (by decide) T2.exa at_105 rfl pd4 rfl rfl rfl (by decide) (W := 0) rfl (by decide) (by decide) (by decide) (by decide) (by decide) ?_
        intro v105 h105 q105
        obtain ⟨rfl, cap105, ps105, fc105, T105, s105, c105, e105, b105, f105⟩ := q105
        show Go κ h105 5 22 108 #[.val (.int x0), .val (.int x1), .val (.int x2), .val (.int x3), .val (.int fl), .val (.int a), .val (.int b), .val (.int c), .val (.int ((ushr fl (2 : Int32)) &&& (3 : Int32))), .val (.int q), .val (.int (0 : Int32)), .val (.int (1 : Int32)), .val (.ref t), .unset] []
        refine Go.aload D (pc' := 110) at_108 rfl rfl rfl ?_
        refine Go.iload D (pc' := 112) at_110 rfl rfl ?_
        refine Go.callV D (argsL := [(.int b)]) (rest := []) (pc' := 115) (ce' := 7) (sl' := 38) (con_add l Z a0 hw h105 n0 T105.sz t b _ 1 _ _ T105 s105 c105 (by decide) b105.2 b105.1) (hw _ (List.mem_of_getElem? (i := 18) rfl)) (hw _ (List.mem_of_getElem? (i := 19) rfl)) (hw _ (List.mem_of_getElem? (i := 21) rfl)) (hw _ (List.mem_of_getElem? (i := 20) rfl)) (hw _ (List.mem_of_getElem? (i := 6) rfl)) (hw _ (List.mem_of_getElem? (i := 22) rfl)) (nfS (hw _ (List.mem_of_getElem? (i := 21) rfl))) (by decide) T105.exa at_112 rfl pd4 rfl rfl rfl (by decide) (W := 0) rfl (by decide) (by decide) (by decide) (by decide) (by decide) ?_
        intro v112 h112 q112
        obtain ⟨rfl, cap112, ps112, fc112, T112, s112, c112, e112, b112, f112⟩ := q112
        show Go κ h112 7 38 115 #[.val (.int x0), .val (.int x1), .val (.int x2), .val (.int x3), .val (.int fl), .val (.int a), .val (.int b), .val (.int c), .val (.int ((ushr fl (2 : Int32)) &&& (3 : Int32))), .val (.int q), .val (.int (0 : Int32)), .val (.int (1 : Int32)), .val (.ref t), .unset] []
        refine Go.aload D (pc' := 117) at_115 rfl rfl rfl ?_
        refine Go.iload D (pc' := 119) at_117 rfl rfl ?_
        refine Go.callV D (argsL := [(.int c)]) (rest := []) (pc' := 122) (ce' := 9) (sl' := 54) (con_add l Z a0 hw h112 n0 T112.sz t c _ 2 _ _ T112 s112 c112 (by decide) b112.2 b112.1) (hw _ (List.mem_of_getElem? (i := 18) rfl)) (hw _ (List.mem_of_getElem? (i := 19) rfl)) (hw _ (List.mem_of_getElem? (i := 21) rfl)) (hw _ (List.mem_of_getElem? (i := 20) rfl)) (hw _ (List.mem_of_getElem? (i := 6) rfl)) (hw _ (List.mem_of_getElem? (i := 22) rfl)) (nfS (hw _ (List.mem_of_getElem? (i := 21) rfl))) (by decide) T112.exa at_119 rfl pd4 rfl rfl rfl (by decide) (W := 0) rfl (by decide) (by decide) (by decide) (by decide) (by decide) ?_
        intro v119 h119 q119
        obtain ⟨rfl, cap119, ps119, fc119, T119, s119, c119, e119, b119, f119⟩ := q119
        show Go κ h119 9 54 122 #[.val (.int x0), .val (.int x1), .val (.int x2), .val (.int x3), .val (.int fl), .val (.int a), .val (.int b), .val (.int c), .val (.int ((ushr fl (2 : Int32)) &&& (3 : Int32))), .val (.int q), .val (.int (0 : Int32)), .val (.int (1 : Int32)), .val (.ref t), .unset] []
        refine Go.iload D (pc' := 124) at_122 rfl rfl ?_
        refine Go.iload D (pc' := 126) at_124 rfl rfl ?_
        refine Go.callS D (argsL := [(.int q), (.int a)]) (rest := []) (pc' := 129) (ce' := 9) (sl' := 54) (con_eq l Z a0 hw h119 n0 q a) (hw _ (List.mem_of_getElem? (i := 49) rfl)) (hw _ (List.mem_of_getElem? (i := 50) rfl)) (hw _ (List.mem_of_getElem? (i := 2) rfl)) (hw _ (List.mem_of_getElem? (i := 51) rfl)) (by decide) at_126 rfl pd10 rfl rfl rfl (by decide) (W := 0) rfl (by decide) (by decide) (by decide) (by decide) (by decide) ?_
        intro v126 h126 q126
        obtain ⟨rfl, r126, rfl, hr126⟩ := q126
        show Go κ h126 9 54 129 #[.val (.int x0), .val (.int x1), .val (.int x2), .val (.int x3), .val (.int fl), .val (.int a), .val (.int b), .val (.int c), .val (.int ((ushr fl (2 : Int32)) &&& (3 : Int32))), .val (.int q), .val (.int (0 : Int32)), .val (.int (1 : Int32)), .val (.ref t), .unset] [(.int r126)]
        refine Go.iload D (pc' := 131) at_129 rfl rfl ?_
        refine Go.iload D (pc' := 133) at_131 rfl rfl ?_
        refine Go.callS D (argsL := [(.int q), (.int b)]) (rest := [(.int r126)]) (pc' := 136) (ce' := 9) (sl' := 54) (con_eq l Z a0 hw h126 n0 q b) (hw _ (List.mem_of_getElem? (i := 49) rfl)) (hw _ (List.mem_of_getElem? (i := 50) rfl)) (hw _ (List.mem_of_getElem? (i := 2) rfl)) (hw _ (List.mem_of_getElem? (i := 51) rfl)) (by decide) at_133 rfl pd10 rfl rfl rfl (by decide) (W := 1) rfl (by decide) (by decide) (by decide) (by decide) (by decide) ?_
        intro v133 h133 q133
        obtain ⟨rfl, r133, rfl, hr133⟩ := q133
        show Go κ h133 9 54 136 #[.val (.int x0), .val (.int x1), .val (.int x2), .val (.int x3), .val (.int fl), .val (.int a), .val (.int b), .val (.int c), .val (.int ((ushr fl (2 : Int32)) &&& (3 : Int32))), .val (.int q), .val (.int (0 : Int32)), .val (.int (1 : Int32)), .val (.ref t), .unset] [(.int r133), (.int r126)]
        refine Go.iadd D (pc' := 137) at_136 rfl  ?_
        refine Go.iload D (pc' := 139) at_137 rfl rfl ?_
        refine Go.iload D (pc' := 141) at_139 rfl rfl ?_
        refine Go.callS D (argsL := [(.int q), (.int c)]) (rest := [(.int (r126 + r133))]) (pc' := 144) (ce' := 9) (sl' := 54) (con_eq l Z a0 hw h133 n0 q c) (hw _ (List.mem_of_getElem? (i := 49) rfl)) (hw _ (List.mem_of_getElem? (i := 50) rfl)) (hw _ (List.mem_of_getElem? (i := 2) rfl)) (hw _ (List.mem_of_getElem? (i := 51) rfl)) (by decide) at_141 rfl pd10 rfl rfl rfl (by decide) (W := 1) rfl (by decide) (by decide) (by decide) (by decide) (by decide) ?_
        intro v141 h141 q141
        obtain ⟨rfl, r141, rfl, hr141⟩ := q141
        show Go κ h141 9 54 144 #[.val (.int x0), .val (.int x1), .val (.int x2), .val (.int x3), .val (.int fl), .val (.int a), .val (.int b), .val (.int c), .val (.int ((ushr fl (2 : Int32)) &&& (3 : Int32))), .val (.int q), .val (.int (0 : Int32)), .val (.int (1 : Int32)), .val (.ref t), .unset] [(.int r141), (.int (r126 + r133))]
        refine Go.iadd D (pc' := 145) at_144 rfl  ?_
        refine Go.istore D (pc' := 147) at_145 rfl (ls' := #[.val (.int x0), .val (.int x1), .val (.int x2), .val (.int x3), .val (.int fl), .val (.int a), .val (.int b), .val (.int c), .val (.int ((ushr fl (2 : Int32)) &&& (3 : Int32))), .val (.int q), .val (.int (0 : Int32)), .val (.int (1 : Int32)), .val (.ref t), .val (.int ((r126 + r133) + r141))]) rfl ?_
        refine Go.iload D (pc' := 149) at_147 rfl rfl ?_
        refine Go.ifc D (pc' := 171) (pc2 := 152) at_149 (by decide) (by decide) rfl (fun _ => ?_) (fun (hc : ¬ (0 : Int32) = 0) => absurd hc (by decide))
        refine Go.iload D (pc' := 173) at_171 rfl rfl ?_
        refine Go.ifc D (pc' := 195) (pc2 := 176) at_173 (by decide) (by decide) rfl (fun (hc : (1 : Int32) = 0) => absurd hc (by decide)) (fun _ => ?_)
        refine Go.aload D (pc' := 178) at_176 rfl rfl rfl ?_
        refine Go.iload D (pc' := 180) at_178 rfl rfl ?_
        have hp180 : 0 < cnt ps119 b := by
          have q0 := own_add (e105 b)
          have q1 := own_add (e112 b)
          have q2 := own_add (e119 b)
          simp only [← Int32.toInt_inj, true_and, not_true_eq_false, false_and, or_false, false_or, cnt] at q0 q1 q2 <;> omega
        refine Go.callV D (argsL := [(.int b)]) (rest := []) (pc' := 183) (ce' := 9) (sl' := 54) (con_remove l Z a0 hw h141 n0 t b _ 3 _ _ T119 s119 c119 (by decide) b119.2 hp180) (hw _ (List.mem_of_getElem? (i := 57) rfl)) (hw _ (List.mem_of_getElem? (i := 58) rfl)) (hw _ (List.mem_of_getElem? (i := 60) rfl)) (hw _ (List.mem_of_getElem? (i := 59) rfl)) (hw _ (List.mem_of_getElem? (i := 6) rfl)) (hw _ (List.mem_of_getElem? (i := 61) rfl)) (nfS (hw _ (List.mem_of_getElem? (i := 60) rfl))) (by decide) T119.exa at_180 rfl pd12 rfl rfl rfl (by decide) (W := 0) rfl (by decide) (by decide) (by decide) (by decide) (by decide) ?_
        intro v180 h180 q180
        obtain ⟨rfl, ps180, fc180, T180, s180, c180, e180, f180⟩ := q180
        show Go κ h180 9 54 183 #[.val (.int x0), .val (.int x1), .val (.int x2), .val (.int x3), .val (.int fl), .val (.int a), .val (.int b), .val (.int c), .val (.int ((ushr fl (2 : Int32)) &&& (3 : Int32))), .val (.int q), .val (.int (0 : Int32)), .val (.int (1 : Int32)), .val (.ref t), .val (.int ((r126 + r133) + r141))] []
        refine Go.iload D (pc' := 185) at_183 rfl rfl ?_
        refine Go.iload D (pc' := 187) at_185 rfl rfl ?_
        refine Go.iload D (pc' := 189) at_187 rfl rfl ?_
        refine Go.callS D (argsL := [(.int q), (.int b)]) (rest := [(.int ((r126 + r133) + r141))]) (pc' := 192) (ce' := 9) (sl' := 54) (con_eq l Z a0 hw h180 n0 q b) (hw _ (List.mem_of_getElem? (i := 49) rfl)) (hw _ (List.mem_of_getElem? (i := 50) rfl)) (hw _ (List.mem_of_getElem? (i := 2) rfl)) (hw _ (List.mem_of_getElem? (i := 51) rfl)) (by decide) at_189 rfl pd10 rfl rfl rfl (by decide) (W := 1) rfl (by decide) (by decide) (by decide) (by decide) (by decide) ?_
        intro v189 h189 q189
        obtain ⟨rfl, r189, rfl, hr189⟩ := q189
        show Go κ h189 9 54 192 #[.val (.int x0), .val (.int x1), .val (.int x2), .val (.int x3), .val (.int fl), .val (.int a), .val (.int b), .val (.int c), .val (.int ((ushr fl (2 : Int32)) &&& (3 : Int32))), .val (.int q), .val (.int (0 : Int32)), .val (.int (1 : Int32)), .val (.ref t), .val (.int ((r126 + r133) + r141))] [(.int r189), (.int ((r126 + r133) + r141))]
        refine Go.isub D (pc' := 193) at_192 rfl  ?_
        refine Go.istore D (pc' := 195) at_193 rfl (ls' := #[.val (.int x0), .val (.int x1), .val (.int x2), .val (.int x3), .val (.int fl), .val (.int a), .val (.int b), .val (.int c), .val (.int ((ushr fl (2 : Int32)) &&& (3 : Int32))), .val (.int q), .val (.int (0 : Int32)), .val (.int (1 : Int32)), .val (.ref t), .val (.int (((r126 + r133) + r141) - r189))]) rfl ?_
        refine Go.aload D (pc' := 197) at_195 rfl rfl rfl ?_
        refine Go.iload D (pc' := 199) at_197 rfl rfl ?_
        have fi0 : FI 0 [] := FI.start
        have fi1 := FI.add fi0 na e105 f105
        have fi2 := FI.add fi1 nb e112 f112
        have fi3 := FI.add fi2 nc e119 f119
        have fi4 := FI.remove fi3 nb e180 f180
        refine Go.callV D (argsL := [(.int q)]) (rest := []) (pc' := 202) (ce' := 9) (sl' := 54) (con_holds l Z a0 hw h189 n0 t q _ 3 _ _ T180 s180 c180 (by decide) b119.2 fi4 hq) (hw _ (List.mem_of_getElem? (i := 52) rfl)) (hw _ (List.mem_of_getElem? (i := 53) rfl)) (hw _ (List.mem_of_getElem? (i := 55) rfl)) (hw _ (List.mem_of_getElem? (i := 54) rfl)) (hw _ (List.mem_of_getElem? (i := 6) rfl)) (hw _ (List.mem_of_getElem? (i := 56) rfl)) (nfS (hw _ (List.mem_of_getElem? (i := 55) rfl))) (by decide) T180.exa at_199 rfl pd11 rfl rfl rfl (by decide) (W := 0) rfl (by decide) (by decide) (by decide) (by decide) (by decide) ?_
        intro v199 h199 q199
        obtain ⟨rfl, u, rfl, hu⟩ := q199
        show Go κ h199 9 54 202 #[.val (.int x0), .val (.int x1), .val (.int x2), .val (.int x3), .val (.int fl), .val (.int a), .val (.int b), .val (.int c), .val (.int ((ushr fl (2 : Int32)) &&& (3 : Int32))), .val (.int q), .val (.int (0 : Int32)), .val (.int (1 : Int32)), .val (.ref t), .val (.int (((r126 + r133) + r141) - r189))] [(.int u)]
        have fin : 0 < (((r126 + r133) + r141) - r189) ↔ 0 < cnt ps180 q := by
          have q0 := own_add (e105 q)
          have q1 := own_add (e112 q)
          have q2 := own_add (e119 q)
          have q3 := own_rem (e180 q)
          rcases hr126 with ⟨g0, rfl⟩ | ⟨g0, rfl⟩ <;> rcases hr133 with ⟨g1, rfl⟩ | ⟨g1, rfl⟩ <;> rcases hr141 with ⟨g2, rfl⟩ | ⟨g2, rfl⟩ <;> rcases hr189 with ⟨g3, rfl⟩ | ⟨g3, rfl⟩ <;> simp only [← Int32.toInt_inj, true_and, not_true_eq_false, false_and, or_false, false_or, cnt] at g0 g1 g2 g3 q0 q1 q2 q3 <;> first | exact ⟨fun _ => by omega, fun _ => by decide⟩ | exact ⟨fun z => absurd z (by decide), fun z => absurd z (by omega)⟩ | omega
        refine Go.iload D (pc' := 204) at_202 rfl rfl ?_
        refine Go.ifc D (pc' := 211) (pc2 := 207) at_204 (by decide) (by decide) rfl ?_ ?_
        · intro (hc204 : ¬ 0 < (((r126 + r133) + r141) - r189))
          refine Go.iconst D (pc' := 212) at_211 rfl (v := (0 : Int32)) rfl ?_
          refine Go.icmp D (pc' := 219) (pc2 := 215) at_212 (by decide) (by decide) rfl ?_ ?_
          · intro (hc212 : ¬ u = (0 : Int32))
            exact absurd (hu.elim (fun z => absurd (fin.mpr z.2) hc204) (fun z => z.1)) hc212
          · intro (hc212 : u = (0 : Int32))
            refine Go.iconst D (pc' := 216) at_215 rfl (v := (1 : Int32)) rfl ?_
            refine Go.goto D (pc' := 220) at_216 (by decide) (by decide) ?_
            refine Go.zret D rfl rfl at_220 (by decide) (by decide) ?_
            exact rfl
        · intro (hc204 : 0 < (((r126 + r133) + r141) - r189))
          refine Go.iconst D (pc' := 208) at_207 rfl (v := (1 : Int32)) rfl ?_
          refine Go.goto D (pc' := 212) at_208 (by decide) (by decide) ?_
          refine Go.icmp D (pc' := 219) (pc2 := 215) at_212 (by decide) (by decide) rfl ?_ ?_
          · intro (hc212 : ¬ u = (1 : Int32))
            exact absurd (hu.elim (fun z => z.1) (fun z => absurd (fin.mp hc204) z.2)) hc212
          · intro (hc212 : u = (1 : Int32))
            refine Go.iconst D (pc' := 216) at_215 rfl (v := (1 : Int32)) rfl ?_
            refine Go.goto D (pc' := 220) at_216 (by decide) (by decide) ?_
            refine Go.zret D rfl rfl at_220 (by decide) (by decide) ?_
            exact rfl
    · intro (hc68 : ¬ (fl &&& (1 : Int32)) = 0)
      refine Go.iconst D (pc' := 72) at_71 rfl (v := (1 : Int32)) rfl ?_
      refine Go.goto D (pc' := 76) at_72 (by decide) (by decide) ?_
      refine Go.istore D (pc' := 78) at_76 rfl (ls' := #[.val (.int x0), .val (.int x1), .val (.int x2), .val (.int x3), .val (.int fl), .val (.int a), .val (.int b), .val (.int c), .val (.int ((ushr fl (2 : Int32)) &&& (3 : Int32))), .val (.int q), .val (.int (1 : Int32)), .unset, .unset, .unset]) rfl ?_
      refine Go.iload D (pc' := 80) at_78 rfl rfl ?_
      refine Go.iconst D (pc' := 81) at_80 rfl (v := (2 : Int32)) rfl ?_
      refine Go.iand D (pc' := 82) at_81 rfl  ?_
      refine Go.ifc D (pc' := 89) (pc2 := 85) at_82 (by decide) (by decide) rfl ?_ ?_
      · intro (hc82 : (fl &&& (2 : Int32)) = 0)
        refine Go.iconst D (pc' := 90) at_89 rfl (v := (0 : Int32)) rfl ?_
        refine Go.istore D (pc' := 92) at_90 rfl (ls' := #[.val (.int x0), .val (.int x1), .val (.int x2), .val (.int x3), .val (.int fl), .val (.int a), .val (.int b), .val (.int c), .val (.int ((ushr fl (2 : Int32)) &&& (3 : Int32))), .val (.int q), .val (.int (1 : Int32)), .val (.int (0 : Int32)), .unset, .unset]) rfl ?_
        refine Go.newO D (pc' := 95) (ce' := 1) (sl' := 4) (hw _ (List.mem_of_getElem? (i := 4) rfl)) (hw _ (List.mem_of_getElem? (i := 5) rfl)) (hw _ (List.mem_of_getElem? (i := 6) rfl)) at_92 rfl rfl rfl (by decide) (by decide) ?_
        intro h1 t gt E1 X1 Dd
        have F1 : FB Z h1 t .null .null 0 0 := ⟨X1, Dd (Or.inl (hw _ (List.mem_of_getElem? (i := 15) rfl))) (ty := .array .int) (by decide), Dd (Or.inl (hw _ (List.mem_of_getElem? (i := 17) rfl))) (ty := .array .int) (by decide), Dd (Or.inl (hw _ (List.mem_of_getElem? (i := 24) rfl))) (ty := .int) (by decide), Dd (Or.inl (hw _ (List.mem_of_getElem? (i := 40) rfl))) (ty := .long) (by decide)⟩
        refine Go.dup D (pc' := 96) at_95 rfl rfl ?_
        refine Go.callI D (argsL := []) (rest := [(.ref t)]) (pc' := 99) (ce' := 3) (sl' := 6) (con_init l Z a0 hw h1 n0 (Nat.le_trans Z0 E1.1) t (by omega) F1) rfl (hw _ (List.mem_of_getElem? (i := 7) rfl)) (hw _ (List.mem_of_getElem? (i := 8) rfl)) (hw _ (List.mem_of_getElem? (i := 6) rfl)) (hw _ (List.mem_of_getElem? (i := 9) rfl)) (by decide) at_96 rfl pd2 rfl rfl rfl (by decide) (W := 1) rfl (by decide) (by decide) (by decide) (by decide) (by decide) ?_
        intro v96 h2 q96
        obtain ⟨rfl, T2⟩ := q96
        show Go κ h2 3 6 99 #[.val (.int x0), .val (.int x1), .val (.int x2), .val (.int x3), .val (.int fl), .val (.int a), .val (.int b), .val (.int c), .val (.int ((ushr fl (2 : Int32)) &&& (3 : Int32))), .val (.int q), .val (.int (1 : Int32)), .val (.int (0 : Int32)), .unset, .unset] [(.ref t)]
        have s2 : Srt [] := List.Pairwise.nil
        have c2 : Cts 0 [] := ⟨Nat.le_refl _, fun p hp => absurd hp (by simp)⟩
        refine Go.astore D (pc' := 101) at_99 rfl rfl (ls' := #[.val (.int x0), .val (.int x1), .val (.int x2), .val (.int x3), .val (.int fl), .val (.int a), .val (.int b), .val (.int c), .val (.int ((ushr fl (2 : Int32)) &&& (3 : Int32))), .val (.int q), .val (.int (1 : Int32)), .val (.int (0 : Int32)), .val (.ref t), .unset]) rfl ?_
        refine Go.aload D (pc' := 103) at_101 rfl rfl rfl ?_
        refine Go.iload D (pc' := 105) at_103 rfl rfl ?_
        refine Go.callV D (argsL := [(.int a)]) (rest := []) (pc' := 108) (ce' := 5) (sl' := 22) (con_add l Z a0 hw h2 n0 T2.sz t a _ 0 _ _ T2 s2 c2 (by decide) (by decide : 1 ≤ 2 * 0 + 1) (by decide : 0 < 1)) (hw _ (List.mem_of_getElem? (i := 18) rfl)) (hw _ (List.mem_of_getElem? (i := 19) rfl)) (hw _ (List.mem_of_getElem? (i := 21) rfl)) (hw _ (List.mem_of_getElem? (i := 20) rfl)) (hw _ (List.mem_of_getElem? (i := 6) rfl)) (hw _ (List.mem_of_getElem? (i := 22) rfl)) (nfS (hw _ (List.mem_of_getElem? (i := 21) rfl))) (by decide) T2.exa at_105 rfl pd4 rfl rfl rfl (by decide) (W := 0) rfl (by decide) (by decide) (by decide) (by decide) (by decide) ?_
        intro v105 h105 q105
        obtain ⟨rfl, cap105, ps105, fc105, T105, s105, c105, e105, b105, f105⟩ := q105
        show Go κ h105 5 22 108 #[.val (.int x0), .val (.int x1), .val (.int x2), .val (.int x3), .val (.int fl), .val (.int a), .val (.int b), .val (.int c), .val (.int ((ushr fl (2 : Int32)) &&& (3 : Int32))), .val (.int q), .val (.int (1 : Int32)), .val (.int (0 : Int32)), .val (.ref t), .unset] []
        refine Go.aload D (pc' := 110) at_108 rfl rfl rfl ?_
        refine Go.iload D (pc' := 112) at_110 rfl rfl ?_
        refine Go.callV D (argsL := [(.int b)]) (rest := []) (pc' := 115) (ce' := 7) (sl' := 38) (con_add l Z a0 hw h105 n0 T105.sz t b _ 1 _ _ T105 s105 c105 (by decide) b105.2 b105.1) (hw _ (List.mem_of_getElem? (i := 18) rfl)) (hw _ (List.mem_of_getElem? (i := 19) rfl)) (hw _ (List.mem_of_getElem? (i := 21) rfl)) (hw _ (List.mem_of_getElem? (i := 20) rfl)) (hw _ (List.mem_of_getElem? (i := 6) rfl)) (hw _ (List.mem_of_getElem? (i := 22) rfl)) (nfS (hw _ (List.mem_of_getElem? (i := 21) rfl))) (by decide) T105.exa at_112 rfl pd4 rfl rfl rfl (by decide) (W := 0) rfl (by decide) (by decide) (by decide) (by decide) (by decide) ?_
        intro v112 h112 q112
        obtain ⟨rfl, cap112, ps112, fc112, T112, s112, c112, e112, b112, f112⟩ := q112
        show Go κ h112 7 38 115 #[.val (.int x0), .val (.int x1), .val (.int x2), .val (.int x3), .val (.int fl), .val (.int a), .val (.int b), .val (.int c), .val (.int ((ushr fl (2 : Int32)) &&& (3 : Int32))), .val (.int q), .val (.int (1 : Int32)), .val (.int (0 : Int32)), .val (.ref t), .unset] []
        refine Go.aload D (pc' := 117) at_115 rfl rfl rfl ?_
        refine Go.iload D (pc' := 119) at_117 rfl rfl ?_
        refine Go.callV D (argsL := [(.int c)]) (rest := []) (pc' := 122) (ce' := 9) (sl' := 54) (con_add l Z a0 hw h112 n0 T112.sz t c _ 2 _ _ T112 s112 c112 (by decide) b112.2 b112.1) (hw _ (List.mem_of_getElem? (i := 18) rfl)) (hw _ (List.mem_of_getElem? (i := 19) rfl)) (hw _ (List.mem_of_getElem? (i := 21) rfl)) (hw _ (List.mem_of_getElem? (i := 20) rfl)) (hw _ (List.mem_of_getElem? (i := 6) rfl)) (hw _ (List.mem_of_getElem? (i := 22) rfl)) (nfS (hw _ (List.mem_of_getElem? (i := 21) rfl))) (by decide) T112.exa at_119 rfl pd4 rfl rfl rfl (by decide) (W := 0) rfl (by decide) (by decide) (by decide) (by decide) (by decide) ?_
        intro v119 h119 q119
        obtain ⟨rfl, cap119, ps119, fc119, T119, s119, c119, e119, b119, f119⟩ := q119
        show Go κ h119 9 54 122 #[.val (.int x0), .val (.int x1), .val (.int x2), .val (.int x3), .val (.int fl), .val (.int a), .val (.int b), .val (.int c), .val (.int ((ushr fl (2 : Int32)) &&& (3 : Int32))), .val (.int q), .val (.int (1 : Int32)), .val (.int (0 : Int32)), .val (.ref t), .unset] []
        refine Go.iload D (pc' := 124) at_122 rfl rfl ?_
        refine Go.iload D (pc' := 126) at_124 rfl rfl ?_
        refine Go.callS D (argsL := [(.int q), (.int a)]) (rest := []) (pc' := 129) (ce' := 9) (sl' := 54) (con_eq l Z a0 hw h119 n0 q a) (hw _ (List.mem_of_getElem? (i := 49) rfl)) (hw _ (List.mem_of_getElem? (i := 50) rfl)) (hw _ (List.mem_of_getElem? (i := 2) rfl)) (hw _ (List.mem_of_getElem? (i := 51) rfl)) (by decide) at_126 rfl pd10 rfl rfl rfl (by decide) (W := 0) rfl (by decide) (by decide) (by decide) (by decide) (by decide) ?_
        intro v126 h126 q126
        obtain ⟨rfl, r126, rfl, hr126⟩ := q126
        show Go κ h126 9 54 129 #[.val (.int x0), .val (.int x1), .val (.int x2), .val (.int x3), .val (.int fl), .val (.int a), .val (.int b), .val (.int c), .val (.int ((ushr fl (2 : Int32)) &&& (3 : Int32))), .val (.int q), .val (.int (1 : Int32)), .val (.int (0 : Int32)), .val (.ref t), .unset] [(.int r126)]
        refine Go.iload D (pc' := 131) at_129 rfl rfl ?_
        refine Go.iload D (pc' := 133) at_131 rfl rfl ?_
        refine Go.callS D (argsL := [(.int q), (.int b)]) (rest := [(.int r126)]) (pc' := 136) (ce' := 9) (sl' := 54) (con_eq l Z a0 hw h126 n0 q b) (hw _ (List.mem_of_getElem? (i := 49) rfl)) (hw _ (List.mem_of_getElem? (i := 50) rfl)) (hw _ (List.mem_of_getElem? (i := 2) rfl)) (hw _ (List.mem_of_getElem? (i := 51) rfl)) (by decide) at_133 rfl pd10 rfl rfl rfl (by decide) (W := 1) rfl (by decide) (by decide) (by decide) (by decide) (by decide) ?_
        intro v133 h133 q133
        obtain ⟨rfl, r133, rfl, hr133⟩ := q133
        show Go κ h133 9 54 136 #[.val (.int x0), .val (.int x1), .val (.int x2), .val (.int x3), .val (.int fl), .val (.int a), .val (.int b), .val (.int c), .val (.int ((ushr fl (2 : Int32)) &&& (3 : Int32))), .val (.int q), .val (.int (1 : Int32)), .val (.int (0 : Int32)), .val (.ref t), .unset] [(.int r133), (.int r126)]
        refine Go.iadd D (pc' := 137) at_136 rfl  ?_
        refine Go.iload D (pc' := 139) at_137 rfl rfl ?_
        refine Go.iload D (pc' := 141) at_139 rfl rfl ?_
        refine Go.callS D (argsL := [(.int q), (.int c)]) (rest := [(.int (r126 + r133))]) (pc' := 144) (ce' := 9) (sl' := 54) (con_eq l Z a0 hw h133 n0 q c) (hw _ (List.mem_of_getElem? (i := 49) rfl)) (hw _ (List.mem_of_getElem? (i := 50) rfl)) (hw _ (List.mem_of_getElem? (i := 2) rfl)) (hw _ (List.mem_of_getElem? (i := 51) rfl)) (by decide) at_141 rfl pd10 rfl rfl rfl (by decide) (W := 1) rfl (by decide) (by decide) (by decide) (by decide) (by decide) ?_
        intro v141 h141 q141
        obtain ⟨rfl, r141, rfl, hr141⟩ := q141
        show Go κ h141 9 54 144 #[.val (.int x0), .val (.int x1), .val (.int x2), .val (.int x3), .val (.int fl), .val (.int a), .val (.int b), .val (.int c), .val (.int ((ushr fl (2 : Int32)) &&& (3 : Int32))), .val (.int q), .val (.int (1 : Int32)), .val (.int (0 : Int32)), .val (.ref t), .unset] [(.int r141), (.int (r126 + r133))]
        refine Go.iadd D (pc' := 145) at_144 rfl  ?_
        refine Go.istore D (pc' := 147) at_145 rfl (ls' := #[.val (.int x0), .val (.int x1), .val (.int x2), .val (.int x3), .val (.int fl), .val (.int a), .val (.int b), .val (.int c), .val (.int ((ushr fl (2 : Int32)) &&& (3 : Int32))), .val (.int q), .val (.int (1 : Int32)), .val (.int (0 : Int32)), .val (.ref t), .val (.int ((r126 + r133) + r141))]) rfl ?_
        refine Go.iload D (pc' := 149) at_147 rfl rfl ?_
        refine Go.ifc D (pc' := 171) (pc2 := 152) at_149 (by decide) (by decide) rfl (fun (hc : (1 : Int32) = 0) => absurd hc (by decide)) (fun _ => ?_)
        refine Go.aload D (pc' := 154) at_152 rfl rfl rfl ?_
        refine Go.iload D (pc' := 156) at_154 rfl rfl ?_
        have hp156 : 0 < cnt ps119 a := by
          have q0 := own_add (e105 a)
          have q1 := own_add (e112 a)
          have q2 := own_add (e119 a)
          simp only [← Int32.toInt_inj, true_and, not_true_eq_false, false_and, or_false, false_or, cnt] at q0 q1 q2 <;> omega
        refine Go.callV D (argsL := [(.int a)]) (rest := []) (pc' := 159) (ce' := 9) (sl' := 54) (con_remove l Z a0 hw h141 n0 t a _ 3 _ _ T119 s119 c119 (by decide) b119.2 hp156) (hw _ (List.mem_of_getElem? (i := 57) rfl)) (hw _ (List.mem_of_getElem? (i := 58) rfl)) (hw _ (List.mem_of_getElem? (i := 60) rfl)) (hw _ (List.mem_of_getElem? (i := 59) rfl)) (hw _ (List.mem_of_getElem? (i := 6) rfl)) (hw _ (List.mem_of_getElem? (i := 61) rfl)) (nfS (hw _ (List.mem_of_getElem? (i := 60) rfl))) (by decide) T119.exa at_156 rfl pd12 rfl rfl rfl (by decide) (W := 0) rfl (by decide) (by decide) (by decide) (by decide) (by decide) ?_
        intro v156 h156 q156
        obtain ⟨rfl, ps156, fc156, T156, s156, c156, e156, f156⟩ := q156
        show Go κ h156 9 54 159 #[.val (.int x0), .val (.int x1), .val (.int x2), .val (.int x3), .val (.int fl), .val (.int a), .val (.int b), .val (.int c), .val (.int ((ushr fl (2 : Int32)) &&& (3 : Int32))), .val (.int q), .val (.int (1 : Int32)), .val (.int (0 : Int32)), .val (.ref t), .val (.int ((r126 + r133) + r141))] []
        refine Go.iload D (pc' := 161) at_159 rfl rfl ?_
        refine Go.iload D (pc' := 163) at_161 rfl rfl ?_
        refine Go.iload D (pc' := 165) at_163 rfl rfl ?_
        refine Go.callS D (argsL := [(.int q), (.int a)]) (rest := [(.int ((r126 + r133) + r141))]) (pc' := 168) (ce' := 9) (sl' := 54) (con_eq l Z a0 hw h156 n0 q a) (hw _ (List.mem_of_getElem? (i := 49) rfl)) (hw _ (List.mem_of_getElem? (i := 50) rfl)) (hw _ (List.mem_of_getElem? (i := 2) rfl)) (hw _ (List.mem_of_getElem? (i := 51) rfl)) (by decide) at_165 rfl pd10 rfl rfl rfl (by decide) (W := 1) rfl (by decide) (by decide) (by decide) (by decide) (by decide) ?_
        intro v165 h165 q165
        obtain ⟨rfl, r165, rfl, hr165⟩ := q165
        show Go κ h165 9 54 168 #[.val (.int x0), .val (.int x1), .val (.int x2), .val (.int x3), .val (.int fl), .val (.int a), .val (.int b), .val (.int c), .val (.int ((ushr fl (2 : Int32)) &&& (3 : Int32))), .val (.int q), .val (.int (1 : Int32)), .val (.int (0 : Int32)), .val (.ref t), .val (.int ((r126 + r133) + r141))] [(.int r165), (.int ((r126 + r133) + r141))]
        refine Go.isub D (pc' := 169) at_168 rfl  ?_
        refine Go.istore D (pc' := 171) at_169 rfl (ls' := #[.val (.int x0), .val (.int x1), .val (.int x2), .val (.int x3), .val (.int fl), .val (.int a), .val (.int b), .val (.int c), .val (.int ((ushr fl (2 : Int32)) &&& (3 : Int32))), .val (.int q), .val (.int (1 : Int32)), .val (.int (0 : Int32)), .val (.ref t), .val (.int (((r126 + r133) + r141) - r165))]) rfl ?_
        refine Go.iload D (pc' := 173) at_171 rfl rfl ?_
        refine Go.ifc D (pc' := 195) (pc2 := 176) at_173 (by decide) (by decide) rfl (fun _ => ?_) (fun (hc : ¬ (0 : Int32) = 0) => absurd hc (by decide))
        refine Go.aload D (pc' := 197) at_195 rfl rfl rfl ?_
        refine Go.iload D (pc' := 199) at_197 rfl rfl ?_
        have fi0 : FI 0 [] := FI.start
        have fi1 := FI.add fi0 na e105 f105
        have fi2 := FI.add fi1 nb e112 f112
        have fi3 := FI.add fi2 nc e119 f119
        have fi4 := FI.remove fi3 na e156 f156
        refine Go.callV D (argsL := [(.int q)]) (rest := []) (pc' := 202) (ce' := 9) (sl' := 54) (con_holds l Z a0 hw h165 n0 t q _ 3 _ _ T156 s156 c156 (by decide) b119.2 fi4 hq) (hw _ (List.mem_of_getElem? (i := 52) rfl)) (hw _ (List.mem_of_getElem? (i := 53) rfl)) (hw _ (List.mem_of_getElem? (i := 55) rfl)) (hw _ (List.mem_of_getElem? (i := 54) rfl)) (hw _ (List.mem_of_getElem? (i := 6) rfl)) (hw _ (List.mem_of_getElem? (i := 56) rfl)) (nfS (hw _ (List.mem_of_getElem? (i := 55) rfl))) (by decide) T156.exa at_199 rfl pd11 rfl rfl rfl (by decide) (W := 0) rfl (by decide) (by decide) (by decide) (by decide) (by decide) ?_
        intro v199 h199 q199
        obtain ⟨rfl, u, rfl, hu⟩ := q199
        show Go κ h199 9 54 202 #[.val (.int x0), .val (.int x1), .val (.int x2), .val (.int x3), .val (.int fl), .val (.int a), .val (.int b), .val (.int c), .val (.int ((ushr fl (2 : Int32)) &&& (3 : Int32))), .val (.int q), .val (.int (1 : Int32)), .val (.int (0 : Int32)), .val (.ref t), .val (.int (((r126 + r133) + r141) - r165))] [(.int u)]
        have fin : 0 < (((r126 + r133) + r141) - r165) ↔ 0 < cnt ps156 q := by
          have q0 := own_add (e105 q)
          have q1 := own_add (e112 q)
          have q2 := own_add (e119 q)
          have q3 := own_rem (e156 q)
          rcases hr126 with ⟨g0, rfl⟩ | ⟨g0, rfl⟩ <;> rcases hr133 with ⟨g1, rfl⟩ | ⟨g1, rfl⟩ <;> rcases hr141 with ⟨g2, rfl⟩ | ⟨g2, rfl⟩ <;> rcases hr165 with ⟨g3, rfl⟩ | ⟨g3, rfl⟩ <;> simp only [← Int32.toInt_inj, true_and, not_true_eq_false, false_and, or_false, false_or, cnt] at g0 g1 g2 g3 q0 q1 q2 q3 <;> first | exact ⟨fun _ => by omega, fun _ => by decide⟩ | exact ⟨fun z => absurd z (by decide), fun z => absurd z (by omega)⟩ | omega
        refine Go.iload D (pc' := 204) at_202 rfl rfl ?_
        refine Go.ifc D (pc' := 211) (pc2 := 207) at_204 (by decide) (by decide) rfl ?_ ?_
        · intro (hc204 : ¬ 0 < (((r126 + r133) + r141) - r165))
          refine Go.iconst D (pc' := 212) at_211 rfl (v := (0 : Int32)) rfl ?_
          refine Go.icmp D (pc' := 219) (pc2 := 215) at_212 (by decide) (by decide) rfl ?_ ?_
          · intro (hc212 : ¬ u = (0 : Int32))
            exact absurd (hu.elim (fun z => absurd (fin.mpr z.2) hc204) (fun z => z.1)) hc212
          · intro (hc212 : u = (0 : Int32))
            refine Go.iconst D (pc' := 216) at_215 rfl (v := (1 : Int32)) rfl ?_
            refine Go.goto D (pc' := 220) at_216 (by decide) (by decide) ?_
            refine Go.zret D rfl rfl at_220 (by decide) (by decide) ?_
            exact rfl
        · intro (hc204 : 0 < (((r126 + r133) + r141) - r165))
          refine Go.iconst D (pc' := 208) at_207 rfl (v := (1 : Int32)) rfl ?_
          refine Go.goto D (pc' := 212) at_208 (by decide) (by decide) ?_
          refine Go.icmp D (pc' := 219) (pc2 := 215) at_212 (by decide) (by decide) rfl ?_ ?_
          · intro (hc212 : ¬ u = (1 : Int32))
            exact absurd (hu.elim (fun z => z.1) (fun z => absurd (fin.mp hc204) z.2)) hc212
          · intro (hc212 : u = (1 : Int32))
            refine Go.iconst D (pc' := 216) at_215 rfl (v := (1 : Int32)) rfl ?_
            refine Go.goto D (pc' := 220) at_216 (by decide) (by decide) ?_
            refine Go.zret D rfl rfl at_220 (by decide) (by decide) ?_
            exact rfl
      · intro (hc82 : ¬ (fl &&& (2 : Int32)) = 0)
        refine Go.iconst D (pc' := 86) at_85 rfl (v := (1 : Int32)) rfl ?_
        refine Go.goto D (pc' := 90) at_86 (by decide) (by decide) ?_
        refine Go.istore D (pc' := 92) at_90 rfl (ls' := #[.val (.int x0), .val (.int x1), .val (.int x2), .val (.int x3), .val (.int fl), .val (.int a), .val (.int b), .val (.int c), .val (.int ((ushr fl (2 : Int32)) &&& (3 : Int32))), .val (.int q), .val (.int (1 : Int32)), .val (.int (1 : Int32)), .unset, .unset]) rfl ?_
        refine Go.newO D (pc' := 95) (ce' := 1) (sl' := 4) (hw _ (List.mem_of_getElem? (i := 4) rfl)) (hw _ (List.mem_of_getElem? (i := 5) rfl)) (hw _ (List.mem_of_getElem? (i := 6) rfl)) at_92 rfl rfl rfl (by decide) (by decide) ?_
        intro h1 t gt E1 X1 Dd
        have F1 : FB Z h1 t .null .null 0 0 := ⟨X1, Dd (Or.inl (hw _ (List.mem_of_getElem? (i := 15) rfl))) (ty := .array .int) (by decide), Dd (Or.inl (hw _ (List.mem_of_getElem? (i := 17) rfl))) (ty := .array .int) (by decide), Dd (Or.inl (hw _ (List.mem_of_getElem? (i := 24) rfl))) (ty := .int) (by decide), Dd (Or.inl (hw _ (List.mem_of_getElem? (i := 40) rfl))) (ty := .long) (by decide)⟩
        refine Go.dup D (pc' := 96) at_95 rfl rfl ?_
        refine Go.callI D (argsL := []) (rest := [(.ref t)]) (pc' := 99) (ce' := 3) (sl' := 6) (con_init l Z a0 hw h1 n0 (Nat.le_trans Z0 E1.1) t (by omega) F1) rfl (hw _ (List.mem_of_getElem? (i := 7) rfl)) (hw _ (List.mem_of_getElem? (i := 8) rfl)) (hw _ (List.mem_of_getElem? (i := 6) rfl)) (hw _ (List.mem_of_getElem? (i := 9) rfl)) (by decide) at_96 rfl pd2 rfl rfl rfl (by decide) (W := 1) rfl (by decide) (by decide) (by decide) (by decide) (by decide) ?_
        intro v96 h2 q96
        obtain ⟨rfl, T2⟩ := q96
        show Go κ h2 3 6 99 #[.val (.int x0), .val (.int x1), .val (.int x2), .val (.int x3), .val (.int fl), .val (.int a), .val (.int b), .val (.int c), .val (.int ((ushr fl (2 : Int32)) &&& (3 : Int32))), .val (.int q), .val (.int (1 : Int32)), .val (.int (1 : Int32)), .unset, .unset] [(.ref t)]
        have s2 : Srt [] := List.Pairwise.nil
        have c2 : Cts 0 [] := ⟨Nat.le_refl _, fun p hp => absurd hp (by simp)⟩
        refine Go.astore D (pc' := 101) at_99 rfl rfl (ls' := #[.val (.int x0), .val (.int x1), .val (.int x2), .val (.int x3), .val (.int fl), .val (.int a), .val (.int b), .val (.int c), .val (.int ((ushr fl (2 : Int32)) &&& (3 : Int32))), .val (.int q), .val (.int (1 : Int32)), .val (.int (1 : Int32)), .val (.ref t), .unset]) rfl ?_
        refine Go.aload D (pc' := 103) at_101 rfl rfl rfl ?_
        refine Go.iload D (pc' := 105) at_103 rfl rfl ?_
        refine Go.callV D (argsL := [(.int a)]) (rest := []) (pc' := 108) (ce' := 5) (sl' := 22) (con_add l Z a0 hw h2 n0 T2.sz t a _ 0 _ _ T2 s2 c2 (by decide) (by decide : 1 ≤ 2 * 0 + 1) (by decide : 0 < 1)) (hw _ (List.mem_of_getElem? (i := 18) rfl)) (hw _ (List.mem_of_getElem? (i := 19) rfl)) (hw _ (List.mem_of_getElem? (i := 21) rfl)) (hw _ (List.mem_of_getElem? (i := 20) rfl)) (hw _ (List.mem_of_getElem? (i := 6) rfl)) (hw _ (List.mem_of_getElem? (i := 22) rfl)) (nfS (hw _ (List.mem_of_getElem? (i := 21) rfl))) (by decide) T2.exa at_105 rfl pd4 rfl rfl rfl (by decide) (W := 0) rfl (by decide) (by decide) (by decide) (by decide) (by decide) ?_
        intro v105 h105 q105
        obtain ⟨rfl, cap105, ps105, fc105, T105, s105, c105, e105, b105, f105⟩ := q105
        show Go κ h105 5 22 108 #[.val (.int x0), .val (.int x1), .val (.int x2), .val (.int x3), .val (.int fl), .val (.int a), .val (.int b), .val (.int c), .val (.int ((ushr fl (2 : Int32)) &&& (3 : Int32))), .val (.int q), .val (.int (1 : Int32)), .val (.int (1 : Int32)), .val (.ref t), .unset] []
        refine Go.aload D (pc' := 110) at_108 rfl rfl rfl ?_
        refine Go.iload D (pc' := 112) at_110 rfl rfl ?_
        refine Go.callV D (argsL := [(.int b)]) (rest := []) (pc' := 115) (ce' := 7) (sl' := 38) (con_add l Z a0 hw h105 n0 T105.sz t b _ 1 _ _ T105 s105 c105 (by decide) b105.2 b105.1) (hw _ (List.mem_of_getElem? (i := 18) rfl)) (hw _ (List.mem_of_getElem? (i := 19) rfl)) (hw _ (List.mem_of_getElem? (i := 21) rfl)) (hw _ (List.mem_of_getElem? (i := 20) rfl)) (hw _ (List.mem_of_getElem? (i := 6) rfl)) (hw _ (List.mem_of_getElem? (i := 22) rfl)) (nfS (hw _ (List.mem_of_getElem? (i := 21) rfl))) (by decide) T105.exa at_112 rfl pd4 rfl rfl rfl (by decide) (W := 0) rfl (by decide) (by decide) (by decide) (by decide) (by decide) ?_
        intro v112 h112 q112
        obtain ⟨rfl, cap112, ps112, fc112, T112, s112, c112, e112, b112, f112⟩ := q112
        show Go κ h112 7 38 115 #[.val (.int x0), .val (.int x1), .val (.int x2), .val (.int x3), .val (.int fl), .val (.int a), .val (.int b), .val (.int c), .val (.int ((ushr fl (2 : Int32)) &&& (3 : Int32))), .val (.int q), .val (.int (1 : Int32)), .val (.int (1 : Int32)), .val (.ref t), .unset] []
        refine Go.aload D (pc' := 117) at_115 rfl rfl rfl ?_
        refine Go.iload D (pc' := 119) at_117 rfl rfl ?_
        refine Go.callV D (argsL := [(.int c)]) (rest := []) (pc' := 122) (ce' := 9) (sl' := 54) (con_add l Z a0 hw h112 n0 T112.sz t c _ 2 _ _ T112 s112 c112 (by decide) b112.2 b112.1) (hw _ (List.mem_of_getElem? (i := 18) rfl)) (hw _ (List.mem_of_getElem? (i := 19) rfl)) (hw _ (List.mem_of_getElem? (i := 21) rfl)) (hw _ (List.mem_of_getElem? (i := 20) rfl)) (hw _ (List.mem_of_getElem? (i := 6) rfl)) (hw _ (List.mem_of_getElem? (i := 22) rfl)) (nfS (hw _ (List.mem_of_getElem? (i := 21) rfl))) (by decide) T112.exa at_119 rfl pd4 rfl rfl rfl (by decide) (W := 0) rfl (by decide) (by decide) (by decide) (by decide) (by decide) ?_
        intro v119 h119 q119
        obtain ⟨rfl, cap119, ps119, fc119, T119, s119, c119, e119, b119, f119⟩ := q119
        show Go κ h119 9 54 122 #[.val (.int x0), .val (.int x1), .val (.int x2), .val (.int x3), .val (.int fl), .val (.int a), .val (.int b), .val (.int c), .val (.int ((ushr fl (2 : Int32)) &&& (3 : Int32))), .val (.int q), .val (.int (1 : Int32)), .val (.int (1 : Int32)), .val (.ref t), .unset] []
        refine Go.iload D (pc' := 124) at_122 rfl rfl ?_
        refine Go.iload D (pc' := 126) at_124 rfl rfl ?_
        refine Go.callS D (argsL := [(.int q), (.int a)]) (rest := []) (pc' := 129) (ce' := 9) (sl' := 54) (con_eq l Z a0 hw h119 n0 q a) (hw _ (List.mem_of_getElem? (i := 49) rfl)) (hw _ (List.mem_of_getElem? (i := 50) rfl)) (hw _ (List.mem_of_getElem? (i := 2) rfl)) (hw _ (List.mem_of_getElem? (i := 51) rfl)) (by decide) at_126 rfl pd10 rfl rfl rfl (by decide) (W := 0) rfl (by decide) (by decide) (by decide) (by decide) (by decide) ?_
        intro v126 h126 q126
        obtain ⟨rfl, r126, rfl, hr126⟩ := q126
        show Go κ h126 9 54 129 #[.val (.int x0), .val (.int x1), .val (.int x2), .val (.int x3), .val (.int fl), .val (.int a), .val (.int b), .val (.int c), .val (.int ((ushr fl (2 : Int32)) &&& (3 : Int32))), .val (.int q), .val (.int (1 : Int32)), .val (.int (1 : Int32)), .val (.ref t), .unset] [(.int r126)]
        refine Go.iload D (pc' := 131) at_129 rfl rfl ?_
        refine Go.iload D (pc' := 133) at_131 rfl rfl ?_
        refine Go.callS D (argsL := [(.int q), (.int b)]) (rest := [(.int r126)]) (pc' := 136) (ce' := 9) (sl' := 54) (con_eq l Z a0 hw h126 n0 q b) (hw _ (List.mem_of_getElem? (i := 49) rfl)) (hw _ (List.mem_of_getElem? (i := 50) rfl)) (hw _ (List.mem_of_getElem? (i := 2) rfl)) (hw _ (List.mem_of_getElem? (i := 51) rfl)) (by decide) at_133 rfl pd10 rfl rfl rfl (by decide) (W := 1) rfl (by decide) (by decide) (by decide) (by decide) (by decide) ?_
        intro v133 h133 q133
        obtain ⟨rfl, r133, rfl, hr133⟩ := q133
        show Go κ h133 9 54 136 #[.val (.int x0), .val (.int x1), .val (.int x2), .val (.int x3), .val (.int fl), .val (.int a), .val (.int b), .val (.int c), .val (.int ((ushr fl (2 : Int32)) &&& (3 : Int32))), .val (.int q), .val (.int (1 : Int32)), .val (.int (1 : Int32)), .val (.ref t), .unset] [(.int r133), (.int r126)]
        refine Go.iadd D (pc' := 137) at_136 rfl  ?_
        refine Go.iload D (pc' := 139) at_137 rfl rfl ?_
        refine Go.iload D (pc' := 141) at_139 rfl rfl ?_
        refine Go.callS D (argsL := [(.int q), (.int c)]) (rest := [(.int (r126 + r133))]) (pc' := 144) (ce' := 9) (sl' := 54) (con_eq l Z a0 hw h133 n0 q c) (hw _ (List.mem_of_getElem? (i := 49) rfl)) (hw _ (List.mem_of_getElem? (i := 50) rfl)) (hw _ (List.mem_of_getElem? (i := 2) rfl)) (hw _ (List.mem_of_getElem? (i := 51) rfl)) (by decide) at_141 rfl pd10 rfl rfl rfl (by decide) (W := 1) rfl (by decide) (by decide) (by decide) (by decide) (by decide) ?_
        intro v141 h141 q141
        obtain ⟨rfl, r141, rfl, hr141⟩ := q141
        show Go κ h141 9 54 144 #[.val (.int x0), .val (.int x1), .val (.int x2), .val (.int x3), .val (.int fl), .val (.int a), .val (.int b), .val (.int c), .val (.int ((ushr fl (2 : Int32)) &&& (3 : Int32))), .val (.int q), .val (.int (1 : Int32)), .val (.int (1 : Int32)), .val (.ref t), .unset] [(.int r141), (.int (r126 + r133))]
        refine Go.iadd D (pc' := 145) at_144 rfl  ?_
        refine Go.istore D (pc' := 147) at_145 rfl (ls' := #[.val (.int x0), .val (.int x1), .val (.int x2), .val (.int x3), .val (.int fl), .val (.int a), .val (.int b), .val (.int c), .val (.int ((ushr fl (2 : Int32)) &&& (3 : Int32))), .val (.int q), .val (.int (1 : Int32)), .val (.int (1 : Int32)), .val (.ref t), .val (.int ((r126 + r133) + r141))]) rfl ?_
        refine Go.iload D (pc' := 149) at_147 rfl rfl ?_
        refine Go.ifc D (pc' := 171) (pc2 := 152) at_149 (by decide) (by decide) rfl (fun (hc : (1 : Int32) = 0) => absurd hc (by decide)) (fun _ => ?_)
        refine Go.aload D (pc' := 154) at_152 rfl rfl rfl ?_
        refine Go.iload D (pc' := 156) at_154 rfl rfl ?_
        have hp156 : 0 < cnt ps119 a := by
          have q0 := own_add (e105 a)
          have q1 := own_add (e112 a)
          have q2 := own_add (e119 a)
          simp only [← Int32.toInt_inj, true_and, not_true_eq_false, false_and, or_false, false_or, cnt] at q0 q1 q2 <;> omega
        refine Go.callV D (argsL := [(.int a)]) (rest := []) (pc' := 159) (ce' := 9) (sl' := 54) (con_remove l Z a0 hw h141 n0 t a _ 3 _ _ T119 s119 c119 (by decide) b119.2 hp156) (hw _ (List.mem_of_getElem? (i := 57) rfl)) (hw _ (List.mem_of_getElem? (i := 58) rfl)) (hw _ (List.mem_of_getElem? (i := 60) rfl)) (hw _ (List.mem_of_getElem? (i := 59) rfl)) (hw _ (List.mem_of_getElem? (i := 6) rfl)) (hw _ (List.mem_of_getElem? (i := 61) rfl)) (nfS (hw _ (List.mem_of_getElem? (i := 60) rfl))) (by decide) T119.exa at_156 rfl pd12 rfl rfl rfl (by decide) (W := 0) rfl (by decide) (by decide) (by decide) (by decide) (by decide) ?_
        intro v156 h156 q156
        obtain ⟨rfl, ps156, fc156, T156, s156, c156, e156, f156⟩ := q156
        show Go κ h156 9 54 159 #[.val (.int x0), .val (.int x1), .val (.int x2), .val (.int x3), .val (.int fl), .val (.int a), .val (.int b), .val (.int c), .val (.int ((ushr fl (2 : Int32)) &&& (3 : Int32))), .val (.int q), .val (.int (1 : Int32)), .val (.int (1 : Int32)), .val (.ref t), .val (.int ((r126 + r133) + r141))] []
        refine Go.iload D (pc' := 161) at_159 rfl rfl ?_
        refine Go.iload D (pc' := 163) at_161 rfl rfl ?_
        refine Go.iload D (pc' := 165) at_163 rfl rfl ?_
        refine Go.callS D (argsL := [(.int q), (.int a)]) (rest := [(.int ((r126 + r133) + r141))]) (pc' := 168) (ce' := 9) (sl' := 54) (con_eq l Z a0 hw h156 n0 q a) (hw _ (List.mem_of_getElem? (i := 49) rfl)) (hw _ (List.mem_of_getElem? (i := 50) rfl)) (hw _ (List.mem_of_getElem? (i := 2) rfl)) (hw _ (List.mem_of_getElem? (i := 51) rfl)) (by decide) at_165 rfl pd10 rfl rfl rfl (by decide) (W := 1) rfl (by decide) (by decide) (by decide) (by decide) (by decide) ?_
        intro v165 h165 q165
        obtain ⟨rfl, r165, rfl, hr165⟩ := q165
        show Go κ h165 9 54 168 #[.val (.int x0), .val (.int x1), .val (.int x2), .val (.int x3), .val (.int fl), .val (.int a), .val (.int b), .val (.int c), .val (.int ((ushr fl (2 : Int32)) &&& (3 : Int32))), .val (.int q), .val (.int (1 : Int32)), .val (.int (1 : Int32)), .val (.ref t), .val (.int ((r126 + r133) + r141))] [(.int r165), (.int ((r126 + r133) + r141))]
        refine Go.isub D (pc' := 169) at_168 rfl  ?_
        refine Go.istore D (pc' := 171) at_169 rfl (ls' := #[.val (.int x0), .val (.int x1), .val (.int x2), .val (.int x3), .val (.int fl), .val (.int a), .val (.int b), .val (.int c), .val (.int ((ushr fl (2 : Int32)) &&& (3 : Int32))), .val (.int q), .val (.int (1 : Int32)), .val (.int (1 : Int32)), .val (.ref t), .val (.int (((r126 + r133) + r141) - r165))]) rfl ?_
        refine Go.iload D (pc' := 173) at_171 rfl rfl ?_
        refine Go.ifc D (pc' := 195) (pc2 := 176) at_173 (by decide) (by decide) rfl (fun (hc : (1 : Int32) = 0) => absurd hc (by decide)) (fun _ => ?_)
        refine Go.aload D (pc' := 178) at_176 rfl rfl rfl ?_
        refine Go.iload D (pc' := 180) at_178 rfl rfl ?_
        have hp180 : 0 < cnt ps156 b := by
          have q0 := own_add (e105 b)
          have q1 := own_add (e112 b)
          have q2 := own_add (e119 b)
          have q3 := own_rem (e156 b)
          simp only [← Int32.toInt_inj, true_and, not_true_eq_false, false_and, or_false, false_or, cnt] at q0 q1 q2 q3 <;> omega
        refine Go.callV D (argsL := [(.int b)]) (rest := []) (pc' := 183) (ce' := 9) (sl' := 54) (con_remove l Z a0 hw h165 n0 t b _ 3 _ _ T156 s156 c156 (by decide) b119.2 hp180) (hw _ (List.mem_of_getElem? (i := 57) rfl)) (hw _ (List.mem_of_getElem? (i := 58) rfl)) (hw _ (List.mem_of_getElem? (i := 60) rfl)) (hw _ (List.mem_of_getElem? (i := 59) rfl)) (hw _ (List.mem_of_getElem? (i := 6) rfl)) (hw _ (List.mem_of_getElem? (i := 61) rfl)) (nfS (hw _ (List.mem_of_getElem? (i := 60) rfl))) (by decide) T156.exa at_180 rfl pd12 rfl rfl rfl (by decide) (W := 0) rfl (by decide) (by decide) (by decide) (by decide) (by decide) ?_
        intro v180 h180 q180
        obtain ⟨rfl, ps180, fc180, T180, s180, c180, e180, f180⟩ := q180
        show Go κ h180 9 54 183 #[.val (.int x0), .val (.int x1), .val (.int x2), .val (.int x3), .val (.int fl), .val (.int a), .val (.int b), .val (.int c), .val (.int ((ushr fl (2 : Int32)) &&& (3 : Int32))), .val (.int q), .val (.int (1 : Int32)), .val (.int (1 : Int32)), .val (.ref t), .val (.int (((r126 + r133) + r141) - r165))] []
        refine Go.iload D (pc' := 185) at_183 rfl rfl ?_
        refine Go.iload D (pc' := 187) at_185 rfl rfl ?_
        refine Go.iload D (pc' := 189) at_187 rfl rfl ?_
        refine Go.callS D (argsL := [(.int q), (.int b)]) (rest := [(.int (((r126 + r133) + r141) - r165))]) (pc' := 192) (ce' := 9) (sl' := 54) (con_eq l Z a0 hw h180 n0 q b) (hw _ (List.mem_of_getElem? (i := 49) rfl)) (hw _ (List.mem_of_getElem? (i := 50) rfl)) (hw _ (List.mem_of_getElem? (i := 2) rfl)) (hw _ (List.mem_of_getElem? (i := 51) rfl)) (by decide) at_189 rfl pd10 rfl rfl rfl (by decide) (W := 1) rfl (by decide) (by decide) (by decide) (by decide) (by decide) ?_
        intro v189 h189 q189
        obtain ⟨rfl, r189, rfl, hr189⟩ := q189
        show Go κ h189 9 54 192 #[.val (.int x0), .val (.int x1), .val (.int x2), .val (.int x3), .val (.int fl), .val (.int a), .val (.int b), .val (.int c), .val (.int ((ushr fl (2 : Int32)) &&& (3 : Int32))), .val (.int q), .val (.int (1 : Int32)), .val (.int (1 : Int32)), .val (.ref t), .val (.int (((r126 + r133) + r141) - r165))] [(.int r189), (.int (((r126 + r133) + r141) - r165))]
        refine Go.isub D (pc' := 193) at_192 rfl  ?_
        refine Go.istore D (pc' := 195) at_193 rfl (ls' := #[.val (.int x0), .val (.int x1), .val (.int x2), .val (.int x3), .val (.int fl), .val (.int a), .val (.int b), .val (.int c), .val (.int ((ushr fl (2 : Int32)) &&& (3 : Int32))), .val (.int q), .val (.int (1 : Int32)), .val (.int (1 : Int32)), .val (.ref t), .val (.int ((((r126 + r133) + r141) - r165) - r189))]) rfl ?_
        refine Go.aload D (pc' := 197) at_195 rfl rfl rfl ?_
        refine Go.iload D (pc' := 199) at_197 rfl rfl ?_
        have fi0 : FI 0 [] := FI.start
        have fi1 := FI.add fi0 na e105 f105
        have fi2 := FI.add fi1 nb e112 f112
        have fi3 := FI.add fi2 nc e119 f119
        have fi4 := FI.remove fi3 na e156 f156
        have fi5 := FI.remove fi4 nb e180 f180
        refine Go.callV D (argsL := [(.int q)]) (rest := []) (pc' := 202) (ce' := 9) (sl' := 54) (con_holds l Z a0 hw h189 n0 t q _ 3 _ _ T180 s180 c180 (by decide) b119.2 fi5 hq) (hw _ (List.mem_of_getElem? (i := 52) rfl)) (hw _ (List.mem_of_getElem? (i := 53) rfl)) (hw _ (List.mem_of_getElem? (i := 55) rfl)) (hw _ (List.mem_of_getElem? (i := 54) rfl)) (hw _ (List.mem_of_getElem? (i := 6) rfl)) (hw _ (List.mem_of_getElem? (i := 56) rfl)) (nfS (hw _ (List.mem_of_getElem? (i := 55) rfl))) (by decide) T180.exa at_199 rfl pd11 rfl rfl rfl (by decide) (W := 0) rfl (by decide) (by decide) (by decide) (by decide) (by decide) ?_
        intro v199 h199 q199
        obtain ⟨rfl, u, rfl, hu⟩ := q199
        show Go κ h199 9 54 202 #[.val (.int x0), .val (.int x1), .val (.int x2), .val (.int x3), .val (.int fl), .val (.int a), .val (.int b), .val (.int c), .val (.int ((ushr fl (2 : Int32)) &&& (3 : Int32))), .val (.int q), .val (.int (1 : Int32)), .val (.int (1 : Int32)), .val (.ref t), .val (.int ((((r126 + r133) + r141) - r165) - r189))] [(.int u)]
        have fin : 0 < ((((r126 + r133) + r141) - r165) - r189) ↔ 0 < cnt ps180 q := by
          have q0 := own_add (e105 q)
          have q1 := own_add (e112 q)
          have q2 := own_add (e119 q)
          have q3 := own_rem (e156 q)
          have q4 := own_rem (e180 q)
          rcases hr126 with ⟨g0, rfl⟩ | ⟨g0, rfl⟩ <;> rcases hr133 with ⟨g1, rfl⟩ | ⟨g1, rfl⟩ <;> rcases hr141 with ⟨g2, rfl⟩ | ⟨g2, rfl⟩ <;> rcases hr165 with ⟨g3, rfl⟩ | ⟨g3, rfl⟩ <;> rcases hr189 with ⟨g4, rfl⟩ | ⟨g4, rfl⟩ <;> simp only [← Int32.toInt_inj, true_and, not_true_eq_false, false_and, or_false, false_or, cnt] at g0 g1 g2 g3 g4 q0 q1 q2 q3 q4 <;> first | exact ⟨fun _ => by omega, fun _ => by decide⟩ | exact ⟨fun z => absurd z (by decide), fun z => absurd z (by omega)⟩ | omega
        refine Go.iload D (pc' := 204) at_202 rfl rfl ?_
        refine Go.ifc D (pc' := 211) (pc2 := 207) at_204 (by decide) (by decide) rfl ?_ ?_
        · intro (hc204 : ¬ 0 < ((((r126 + r133) + r141) - r165) - r189))
          refine Go.iconst D (pc' := 212) at_211 rfl (v := (0 : Int32)) rfl ?_
          refine Go.icmp D (pc' := 219) (pc2 := 215) at_212 (by decide) (by decide) rfl ?_ ?_
          · intro (hc212 : ¬ u = (0 : Int32))
            exact absurd (hu.elim (fun z => absurd (fin.mpr z.2) hc204) (fun z => z.1)) hc212
          · intro (hc212 : u = (0 : Int32))
            refine Go.iconst D (pc' := 216) at_215 rfl (v := (1 : Int32)) rfl ?_
            refine Go.goto D (pc' := 220) at_216 (by decide) (by decide) ?_
            refine Go.zret D rfl rfl at_220 (by decide) (by decide) ?_
            exact rfl
        · intro (hc204 : 0 < ((((r126 + r133) + r141) - r165) - r189))
          refine Go.iconst D (pc' := 208) at_207 rfl (v := (1 : Int32)) rfl ?_
          refine Go.goto D (pc' := 212) at_208 (by decide) (by decide) ?_
          refine Go.icmp D (pc' := 219) (pc2 := 215) at_212 (by decide) (by decide) rfl ?_ ?_
          · intro (hc212 : ¬ u = (1 : Int32))
            exact absurd (hu.elim (fun z => z.1) (fun z => absurd (fin.mp hc204) z.2)) hc212
          · intro (hc212 : u = (1 : Int32))
            refine Go.iconst D (pc' := 216) at_215 rfl (v := (1 : Int32)) rfl ?_
            refine Go.goto D (pc' := 220) at_216 (by decide) (by decide) ?_
            refine Go.zret D rfl rfl at_220 (by decide) (by decide) ?_
            exact rfl
  refine Go.iload D (pc' := 28) at_26 rfl rfl ?_
  refine Go.ifc D (pc' := 36) (pc2 := 31) at_28 (by decide) (by decide) rfl ?_ ?_
  · intro (hc28 : ¬ ((ushr fl (2 : Int32)) &&& (3 : Int32)) = 0)
    refine Go.iload D (pc' := 38) at_36 rfl rfl ?_
    refine Go.iconst D (pc' := 39) at_38 rfl (v := (1 : Int32)) rfl ?_
    refine Go.icmp D (pc' := 47) (pc2 := 42) at_39 (by decide) (by decide) rfl ?_ ?_
    · intro (hc39 : ¬ ((ushr fl (2 : Int32)) &&& (3 : Int32)) = (1 : Int32))
      refine Go.iload D (pc' := 49) at_47 rfl rfl ?_
      refine Go.iconst D (pc' := 50) at_49 rfl (v := (2 : Int32)) rfl ?_
      refine Go.icmp D (pc' := 58) (pc2 := 53) at_50 (by decide) (by decide) rfl ?_ ?_
      · intro (hc50 : ¬ ((ushr fl (2 : Int32)) &&& (3 : Int32)) = (2 : Int32))
        refine Go.iloadN D (pc' := 59) at_58 rfl rfl ?_
        refine Go.callS D (argsL := [(.int x3)]) (rest := []) (pc' := 62) (ce' := 0) (sl' := 0) (con_code l Z a0 hw h13 n0 x3) (hw _ (List.mem_of_getElem? (i := 0) rfl)) (hw _ (List.mem_of_getElem? (i := 1) rfl)) (hw _ (List.mem_of_getElem? (i := 2) rfl)) (hw _ (List.mem_of_getElem? (i := 3) rfl)) (by decide) at_59 rfl pd1 rfl rfl rfl (by decide) (W := 0) rfl (by decide) (by decide) (by decide) (by decide) (by decide) ?_
        intro v59 h59 q59
        obtain ⟨rfl, qq, rfl, nqq⟩ := q59
        show Go κ h59 0 0 62 #[.val (.int x0), .val (.int x1), .val (.int x2), .val (.int x3), .val (.int fl), .val (.int a), .val (.int b), .val (.int c), .val (.int ((ushr fl (2 : Int32)) &&& (3 : Int32))), .unset, .unset, .unset, .unset, .unset] [(.int qq)]
        exact J62 _ nqq
      · intro (hc50 : ((ushr fl (2 : Int32)) &&& (3 : Int32)) = (2 : Int32))
        refine Go.iload D (pc' := 55) at_53 rfl rfl ?_
        refine Go.goto D (pc' := 62) at_55 (by decide) (by decide) ?_
        exact J62 _ nc
    · intro (hc39 : ((ushr fl (2 : Int32)) &&& (3 : Int32)) = (1 : Int32))
      refine Go.iload D (pc' := 44) at_42 rfl rfl ?_
      refine Go.goto D (pc' := 62) at_44 (by decide) (by decide) ?_
      exact J62 _ nb
  · intro (hc28 : ((ushr fl (2 : Int32)) &&& (3 : Int32)) = 0)
    refine Go.iload D (pc' := 33) at_31 rfl rfl ?_
    refine Go.goto D (pc' := 62) at_33 (by decide) (by decide) ?_
    exact J62 _ na
set_option maxRecDepth 65536 in
set_option maxHeartbeats 40000000 in
theorem comes_1 {Post : Tables → Env → Array Value → State → Outcome → State → Prop} (hpost : ∀ tb e args s v u, (limb_1_1.after args s (.returned v) u = true ∧ limb_1_2.after args s (.returned v) u = true ∧ True) → FrameEnd s (.returned v) u (Jvm.fieldLocs frame_1_writes args s ++ Jvm.arrayLocs frame_1_arrays args s ++ Jvm.staticLocs frame_1_statics s) 24 128 → Post tb e args s (.returned v) u) :
    ArmFor flags0 classFile x code maxLocals ret World_1 tables_1 room_1 Calls_1 rest_1 Pre_1 Post := by
  intro l hfl _ _ p e ha hc hk s m args below hf hA hF happ hP
  obtain ⟨hcalls, hrest, hpre⟩ := hP
  obtain ⟨-, -, -, hnamed, -, -, -, hat⟩ := (Spec.applies_iff hf).mp happ
  obtain ⟨hg, hn⟩ := and_e (Cond.before_iff.mp (show (Jvm.Cond.and given_1 narrow_1).before args s = true from hpre))
  obtain ⟨h1, k0⟩ := and_e hg
  obtain ⟨j0, k1⟩ := and_e k0
  obtain ⟨j1, k2⟩ := and_e k1
  obtain ⟨j2, k3⟩ := and_e k2
  obtain ⟨j3, k4⟩ := and_e k3
  obtain ⟨w0, w1, w2, w3, w4, rfl⟩ : ∃ w0 w1 w2 w3 w4 : Value, args = #[w0, w1, w2, w3, w4] := by
    have hs : args.size = 5 := by simpa [Cond.value, given_1] using h1
    obtain ⟨L⟩ := args
    match L, hs with
    | [w0, w1, w2, w3, w4], _ => exact ⟨w0, w1, w2, w3, w4, rfl⟩
  have hw := fun d (hd : d ∈ tables_1) => atoms_spec (ws := Jvm.Cond.code x code maxLocals ret :: tables_1) hat d (List.mem_cons_of_mem _ hd)
  obtain ⟨i0, e0⟩ := is_v j0
  obtain rfl : w0 = (.int i0) := Option.some.inj e0
  obtain ⟨i1, e1⟩ := is_v j1
  obtain rfl : w1 = (.int i1) := Option.some.inj e1
  obtain ⟨i2, e2⟩ := is_v j2
  obtain rfl : w2 = (.int i2) := Option.some.inj e2
  obtain ⟨i3, e3⟩ := is_v j3
  obtain rfl : w3 = (.int i3) := Option.some.inj e3
  obtain ⟨i4, e4⟩ := is_v k4
  obtain rfl : w4 = (.int i4) := Option.some.inj e4

  obtain ⟨n, o, g1, g2, g3, _, L, rfl, ⟨N, rfl⟩, hq⟩ := con_law l s _ hw s.heap s.heap.size (Nat.le_refl _) i0 i1 i2 i3 i4 p e ha hc hk s m _ below hf ((Spec.applies_iff_loose hf).mp happ).1 ⟨rfl, State.Warmed39.refl s, rfl⟩ trivial
  refine ⟨n, _, g1, g2, g3, hpost _ _ _ _ _ _ ⟨Cond.after_iff.mpr rfl, Cond.after_iff.mpr (eq_i res_at (Term.int_eval (1)) rfl), trivial⟩ ⟨hq.1, hq.2.1, (hq.2.2.sift fun y hy => Or.inr (N y hy)).mono (by decide) (by decide)⟩⟩
theorem main_1_1 : Claimed_1_1 := comes_1 fun _ _ _ _ _ _ h hF => ⟨h.1, hF⟩
theorem main_1_2 : Claimed_1_2 := comes_1 fun _ _ _ _ _ _ h hF => ⟨h.2.1, hF⟩
end Jvm.Pilot.@@N@@
namespace Jvm.Pilot.@@N@@
open Jvm Jvm.ClassFile Sem Op Lib Jvm.Free Jvm.Stand Jvm.Pilot.@@N@@.Jvm.D
/-! MADE BY PROGRAM (witnessworld.py) out of the Statement's table words and the real class files: 12 classes; the members and pool entries that the words name. The judged class is class 1, her method 3. -/
namespace start1
open Jvm.ClassFile
def u (s : String) : CpInfo := .utf8 (stringToUtf16 s)
/-- a pool by its gaps: so many unusable entries, then the entry; so many at the end -/
def gap : Nat → List CpInfo → List CpInfo
  | 0, r => r
  | n + 1, r => .unusable :: gap n r
def poolList (es : List (Nat × CpInfo)) (last : Nat) : List CpInfo := es.foldr (fun e r => gap e.1 (e.2 :: r)) (gap last [])
def pool (es : List (Nat × CpInfo)) (last : Nat) : Array CpInfo := ⟨poolList es last⟩
def fileOf (pool : Array CpInfo) (this : Nat) (attrs : Array Attribute := #[]) (ms : Array MethodInfo := #[]) (fl : Nat := 33) (sup : Nat := 0) (ifs : Array Nat := #[]) (fds : Array FieldInfo := #[]) : ClassFile where
  minorVersion := 0
  majorVersion := 65
  constantPool := pool
  accessFlags := fl
  thisClass := this
  superClass := sup
  interfaces := ifs
  fields := fds
  methods := ms
  attributes := attrs
def plain (name : String) (sup : Option ClassId) : Class where
  name := name
  kind := .ordinary
  loader := none
  accessFlags := 33
  super := sup
  interfaces := #[]
  cf := none
  fields := #[]
  methods := #[]
  instanceTypes := #[]
  staticTypes := #[]
  resolved := #[]
  callSites := []
  init := .initialized
  statics := none
  mirror := none

def pool0 : Array CpInfo := pool [(5, u "<init>"), (0, u "()V"), (1, .class_ 10), (1, u "java/lang/Object")] 113

def k0c0 : Code := { maxStack := 0, maxLocals := 1, code := object_method_1_code, exceptionTable := #[], attributes := #[] }
def k0m0 : Method := { name := "<init>", desc := "()V", sig := { parameters := [], returnType := none }, accessFlags := 1, code := some k0c0 }
/-- java/lang/Object -/
def k0 : Class := { plain "java/lang/Object" none with
  accessFlags := 33
  interfaces := #[]
  cf := some (fileOf pool0 8 #[] #[{ accessFlags := 1, nameIndex := 5, descriptorIndex := 6, attributes := #[] }] 33 0 #[] #[])
  fields := #[]
  methods := #[k0m0]
  instanceTypes := #[]
  staticTypes := #[]
  resolved := Array.replicate 124 none
  statics := none }

def pool1 : Array CpInfo := pool [(2, .class_ 4), (0, .nameAndType 5 6), (0, u "java/lang/Object"), (0, u "<init>"), (0, u "()V"), (0, .methodref 8 9), (0, .class_ 10), (0, .nameAndType 11 12), (0, u "com/example/opaque_cohort/opaquecohort/CodeTallyHoldsPinLaw"), (0, u "code"), (0, u "(I)I"), (0, .class_ 14), (0, u "com/example/opaque_cohort/opaquecohort/CodeTally"), (0, .methodref 13 3), (0, .methodref 13 17), (0, .nameAndType 18 19), (0, u "add"), (0, u "(I)V"), (0, .methodref 8 21), (0, .nameAndType 22 23), (0, u "eq"), (0, u "(II)I"), (0, .methodref 13 25), (0, .nameAndType 26 19), (0, u "remove"), (0, .methodref 13 28), (0, .nameAndType 29 30), (0, u "holds"), (0, u "(I)Z"), (3, u "law"), (0, u "(IIIII)Z")] 2

def k1m0 : Method := { name := "<init>", desc := "()V", sig := { parameters := [], returnType := none }, accessFlags := 1, code := none }
def k1c1 : Code := { maxStack := 2, maxLocals := 1, code := method_2_code, exceptionTable := #[], attributes := #[] }
def k1m1 : Method := { name := "code", desc := "(I)I", sig := { parameters := [.int], returnType := some .int }, accessFlags := 10, code := some k1c1 }
def k1c2 : Code := { maxStack := 2, maxLocals := 2, code := method_3_code, exceptionTable := #[], attributes := #[] }
def k1m2 : Method := { name := "eq", desc := "(II)I", sig := { parameters := [.int, .int], returnType := some .int }, accessFlags := 10, code := some k1c2 }
def k1c3 : Code := { maxStack := 3, maxLocals := 14, code := code, exceptionTable := #[], attributes := #[] }
def k1m3 : Method := { name := "law", desc := "(IIIII)Z", sig := { parameters := [.int, .int, .int, .int, .int], returnType := some .boolean }, accessFlags := 9, code := some k1c3 }
/-- com/example/opaque_cohort/opaquecohort/CodeTallyHoldsPinLaw -/
def k1 : Class := { plain "com/example/opaque_cohort/opaquecohort/CodeTallyHoldsPinLaw" (some 0) with
  accessFlags := 49
  interfaces := #[]
  cf := some (fileOf pool1 8 #[] #[{ accessFlags := 1, nameIndex := 5, descriptorIndex := 6, attributes := #[] }, { accessFlags := 10, nameIndex := 11, descriptorIndex := 12, attributes := #[] }, { accessFlags := 10, nameIndex := 22, descriptorIndex := 23, attributes := #[] }, { accessFlags := 9, nameIndex := 34, descriptorIndex := 35, attributes := #[] }] 49 2 #[] #[])
  fields := #[]
  methods := #[k1m0, k1m1, k1m2, k1m3]
  instanceTypes := #[]
  staticTypes := #[]
  resolved := Array.replicate 38 none
  statics := none }

def pool2 : Array CpInfo := pool [(1, .methodref 2 3), (0, .class_ 4), (0, .nameAndType 5 6), (0, u "java/lang/Object"), (0, u "<init>"), (0, u "()V"), (0, .fieldref 8 9), (0, .class_ 10), (0, .nameAndType 11 12), (0, u "com/example/opaque_cohort/opaquecohort/CodeTally"), (0, u "codes"), (0, u "[I"), (0, .fieldref 8 14), (0, .nameAndType 15 12), (0, u "counts"), (0, .fieldref 8 17), (0, .nameAndType 18 19), (0, u "distinct"), (0, u "I"), (0, .methodref 21 22), (0, .class_ 23), (0, .nameAndType 24 25), (0, u "java/util/Arrays"), (0, u "binarySearch"), (0, u "([IIII)I"), (0, .methodref 21 27), (0, .nameAndType 28 29), (0, u "copyOf"), (0, u "([II)[I"), (0, .methodref 31 32), (0, .class_ 33), (0, .nameAndType 34 35), (0, u "java/lang/System"), (0, u "arraycopy"), (0, u "(Ljava/lang/Object;ILjava/lang/Object;II)V"), (2, .fieldref 8 39), (0, .nameAndType 40 41), (0, u "firstCodes"), (0, u "J"), (0, .long 18446744073709551615), (3, u "add"), (0, u "(I)V"), (1, u "remove"), (0, u "holds"), (0, u "(I)Z")] 8

def k2c0 : Code := { maxStack := 2, maxLocals := 1, code := prog_1_method_1_code, exceptionTable := #[], attributes := #[] }
def k2m0 : Method := { name := "<init>", desc := "()V", sig := { parameters := [], returnType := none }, accessFlags := 0, code := some k2c0 }
def k2c1 : Code := { maxStack := 6, maxLocals := 4, code := prog_1_method_2_code, exceptionTable := #[], attributes := #[] }
def k2m1 : Method := { name := "add", desc := "(I)V", sig := { parameters := [.int], returnType := none }, accessFlags := 0, code := some k2c1 }
def k2c2 : Code := { maxStack := 7, maxLocals := 3, code := prog_1_method_3_code, exceptionTable := #[], attributes := #[] }
def k2m2 : Method := { name := "remove", desc := "(I)V", sig := { parameters := [.int], returnType := none }, accessFlags := 0, code := some k2c2 }
def k2c3 : Code := { maxStack := 5, maxLocals := 3, code := prog_1_method_4_code, exceptionTable := #[], attributes := #[] }
def k2m3 : Method := { name := "holds", desc := "(I)Z", sig := { parameters := [.int], returnType := some .boolean }, accessFlags := 0, code := some k2c3 }
/-- com/example/opaque_cohort/opaquecohort/CodeTally -/
def k2 : Class := { plain "com/example/opaque_cohort/opaquecohort/CodeTally" (some 0) with
  accessFlags := 32
  interfaces := #[]
  cf := some (fileOf pool2 8 #[] #[{ accessFlags := 0, nameIndex := 5, descriptorIndex := 6, attributes := #[] }, { accessFlags := 0, nameIndex := 46, descriptorIndex := 47, attributes := #[] }, { accessFlags := 0, nameIndex := 49, descriptorIndex := 47, attributes := #[] }, { accessFlags := 0, nameIndex := 50, descriptorIndex := 51, attributes := #[] }] 32 2 #[] #[{ accessFlags := 2, nameIndex := 11, descriptorIndex := 12, attributes := #[] }, { accessFlags := 2, nameIndex := 15, descriptorIndex := 12, attributes := #[] }, { accessFlags := 2, nameIndex := 18, descriptorIndex := 19, attributes := #[] }, { accessFlags := 2, nameIndex := 40, descriptorIndex := 41, attributes := #[] }])
  fields := #[{ name := "codes", type := (.array .int), accessFlags := 2, slot := 0, constantValue := 0 }, { name := "counts", type := (.array .int), accessFlags := 2, slot := 1, constantValue := 0 }, { name := "distinct", type := .int, accessFlags := 2, slot := 2, constantValue := 0 }, { name := "firstCodes", type := .long, accessFlags := 2, slot := 3, constantValue := 0 }]
  methods := #[k2m0, k2m1, k2m2, k2m3]
  instanceTypes := #[(.array .int), (.array .int), .int, .long]
  staticTypes := #[]
  resolved := Array.replicate 60 none
  statics := none }

def pool3 : Array CpInfo := pool [(2, .class_ 4), (1, u "java/lang/Object"), (0, u "<init>"), (0, u "()V"), (6, .methodref 14 15), (0, .class_ 16), (0, .nameAndType 17 18), (0, u "java/util/Arrays"), (0, u "rangeCheck"), (0, u "(III)V"), (55, .class_ 76), (1, u "java/util/Arrays$NaturalOrder"), (36, .class_ 115), (1, u "java/util/Arrays$LegacyMergeSort"), (1, u "Z"), (32, .methodref 151 152), (0, .class_ 153), (0, .nameAndType 154 155), (0, u "java/lang/System"), (0, u "arraycopy"), (0, u "(Ljava/lang/Object;ILjava/lang/Object;II)V"), (51, u "binarySearch0"), (1, .methodref 14 210), (0, .nameAndType 207 211), (0, u "([IIII)I"), (90, u "copyOf"), (1, .methodref 305 306), (0, .class_ 307), (0, .nameAndType 308 309), (0, u "java/lang/Math"), (0, u "min"), (0, u "(II)I"), (65, .class_ 376), (0, u "java/util/Arrays$ArrayList"), (68, u "$assertionsDisabled"), (269, u "MIN_ARRAY_SORT_GRAN"), (0, u "I"), (2, u "INSERTIONSORT_THRESHOLD"), (74, u "binarySearch"), (76, u "([II)[I"), (103, .class_ 976), (0, u "java/util/Arrays$ArrayItr")] 52

def k3m0 : Method := { name := "<init>", desc := "()V", sig := { parameters := [], returnType := none }, accessFlags := 2, code := none }
def k3c1 : Code := { maxStack := 4, maxLocals := 3, code := jdk_65_method_30_code, exceptionTable := #[], attributes := #[] }
def k3m1 : Method := { name := "rangeCheck", desc := "(III)V", sig := { parameters := [.int, .int, .int], returnType := none }, accessFlags := 8, code := some k3c1 }
def k3c2 : Code := { maxStack := 4, maxLocals := 4, code := jdk_65_method_58_code, exceptionTable := #[], attributes := #[] }
def k3m2 : Method := { name := "binarySearch", desc := "([IIII)I", sig := { parameters := [(.array .int), .int, .int, .int], returnType := some .int }, accessFlags := 9, code := some k3c2 }
def k3c3 : Code := { maxStack := 2, maxLocals := 8, code := jdk_65_method_59_code, exceptionTable := #[], attributes := #[] }
def k3m3 : Method := { name := "binarySearch0", desc := "([IIII)I", sig := { parameters := [(.array .int), .int, .int, .int], returnType := some .int }, accessFlags := 10, code := some k3c3 }
def k3c4 : Code := { maxStack := 6, maxLocals := 3, code := jdk_65_method_123_code, exceptionTable := #[], attributes := #[] }
def k3m4 : Method := { name := "copyOf", desc := "([II)[I", sig := { parameters := [(.array .int), .int], returnType := some (.array .int) }, accessFlags := 9, code := some k3c4 }
/-- java/util/Arrays -/
def k3 : Class := { plain "java/util/Arrays" (some 0) with
  accessFlags := 49
  interfaces := #[]
  cf := some (fileOf pool3 14 #[.nestMembers #[975, 375, 113, 74]] #[{ accessFlags := 2, nameIndex := 5, descriptorIndex := 6, attributes := #[] }, { accessFlags := 8, nameIndex := 17, descriptorIndex := 18, attributes := #[] }, { accessFlags := 9, nameIndex := 794, descriptorIndex := 211, attributes := #[] }, { accessFlags := 10, nameIndex := 207, descriptorIndex := 211, attributes := #[] }, { accessFlags := 9, nameIndex := 302, descriptorIndex := 871, attributes := #[] }] 49 2 #[] #[{ accessFlags := 26, nameIndex := 715, descriptorIndex := 716, attributes := #[] }, { accessFlags := 26, nameIndex := 719, descriptorIndex := 716, attributes := #[] }, { accessFlags := 4120, nameIndex := 445, descriptorIndex := 117, attributes := #[] }])
  fields := #[{ name := "MIN_ARRAY_SORT_GRAN", type := .int, accessFlags := 26, slot := 0, constantValue := 0 }, { name := "INSERTIONSORT_THRESHOLD", type := .int, accessFlags := 26, slot := 1, constantValue := 0 }, { name := "$assertionsDisabled", type := .boolean, accessFlags := 4120, slot := 2, constantValue := 0 }]
  methods := #[k3m0, k3m1, k3m2, k3m3, k3m4]
  instanceTypes := #[]
  staticTypes := #[.int, .int, .boolean]
  resolved := Array.replicate 1029 none
  statics := none }

def pool4 : Array CpInfo := pool [(2, .class_ 4), (1, u "java/lang/Object"), (0, u "<init>"), (0, u "()V"), (1, .class_ 10), (1, u "java/lang/System"), (0, u "allowSecurityManager"), (0, u "I"), (16, u "cons"), (0, u "Ljava/io/Console;"), (77, .class_ 110), (1, u "java/lang/System$CallersHolder"), (43, u "initialErrStream"), (0, u "Ljava/io/PrintStream;"), (19, u "security"), (0, u "Ljava/lang/SecurityManager;"), (31, .class_ 209), (0, u "java/lang/System$1"), (7, u "props"), (0, u "Ljava/util/Properties;"), (2, u "lineSeparator"), (0, u "Ljava/lang/String;"), (96, .class_ 321), (1, u "java/lang/System$LoggerFinder"), (5, .class_ 328), (0, u "java/lang/System$Logger"), (67, u "err"), (2, u "out"), (91, u "notSupportedJnuEncoding"), (15, u "in"), (17, u "initialIn"), (0, u "Ljava/io/InputStream;"), (35, u "bootLayer"), (0, u "Ljava/lang/ModuleLayer;"), (99, .class_ 664), (0, u "java/lang/System$2"), (9, u "NEVER"), (2, u "MAYBE"), (49, u "arraycopy"), (0, u "(Ljava/lang/Object;ILjava/lang/Object;II)V"), (72, .class_ 802), (0, u "java/lang/System$Logger$Level")] 31

def k4m0 : Method := { name := "<init>", desc := "()V", sig := { parameters := [], returnType := none }, accessFlags := 2, code := none }
def k4m1 : Method := { name := "arraycopy", desc := "(Ljava/lang/Object;ILjava/lang/Object;II)V", sig := { parameters := [(.object "java/lang/Object"), .int, (.object "java/lang/Object"), .int, .int], returnType := none }, accessFlags := 265, code := none }
/-- java/lang/System -/
def k4 : Class := { plain "java/lang/System" (some 0) with
  accessFlags := 49
  interfaces := #[]
  cf := some (fileOf pool4 8 #[.nestMembers #[319, 327, 801, 108, 663, 208]] #[{ accessFlags := 2, nameIndex := 5, descriptorIndex := 6, attributes := #[] }, { accessFlags := 265, nameIndex := 727, descriptorIndex := 728, attributes := #[] }] 49 2 #[] #[{ accessFlags := 25, nameIndex := 507, descriptorIndex := 526, attributes := #[] }, { accessFlags := 25, nameIndex := 399, descriptorIndex := 155, attributes := #[] }, { accessFlags := 25, nameIndex := 396, descriptorIndex := 155, attributes := #[] }, { accessFlags := 10, nameIndex := 525, descriptorIndex := 526, attributes := #[] }, { accessFlags := 26, nameIndex := 674, descriptorIndex := 12, attributes := #[] }, { accessFlags := 26, nameIndex := 677, descriptorIndex := 12, attributes := #[] }, { accessFlags := 10, nameIndex := 11, descriptorIndex := 12, attributes := #[] }, { accessFlags := 74, nameIndex := 175, descriptorIndex := 176, attributes := #[] }, { accessFlags := 10, nameIndex := 491, descriptorIndex := 222, attributes := #[] }, { accessFlags := 74, nameIndex := 29, descriptorIndex := 30, attributes := #[] }, { accessFlags := 74, nameIndex := 154, descriptorIndex := 155, attributes := #[] }, { accessFlags := 10, nameIndex := 217, descriptorIndex := 218, attributes := #[] }, { accessFlags := 10, nameIndex := 221, descriptorIndex := 222, attributes := #[] }, { accessFlags := 8, nameIndex := 562, descriptorIndex := 563, attributes := #[] }])
  fields := #[{ name := "in", type := (.object "java/io/InputStream"), accessFlags := 25, slot := 0, constantValue := 0 }, { name := "out", type := (.object "java/io/PrintStream"), accessFlags := 25, slot := 1, constantValue := 0 }, { name := "err", type := (.object "java/io/PrintStream"), accessFlags := 25, slot := 2, constantValue := 0 }, { name := "initialIn", type := (.object "java/io/InputStream"), accessFlags := 10, slot := 3, constantValue := 0 }, { name := "NEVER", type := .int, accessFlags := 26, slot := 4, constantValue := 0 }, { name := "MAYBE", type := .int, accessFlags := 26, slot := 5, constantValue := 0 }, { name := "allowSecurityManager", type := .int, accessFlags := 10, slot := 6, constantValue := 0 }, { name := "security", type := (.object "java/lang/SecurityManager"), accessFlags := 74, slot := 7, constantValue := 0 }, { name := "notSupportedJnuEncoding", type := (.object "java/lang/String"), accessFlags := 10, slot := 8, constantValue := 0 }, { name := "cons", type := (.object "java/io/Console"), accessFlags := 74, slot := 9, constantValue := 0 }, { name := "initialErrStream", type := (.object "java/io/PrintStream"), accessFlags := 74, slot := 10, constantValue := 0 }, { name := "props", type := (.object "java/util/Properties"), accessFlags := 10, slot := 11, constantValue := 0 }, { name := "lineSeparator", type := (.object "java/lang/String"), accessFlags := 10, slot := 12, constantValue := 0 }, { name := "bootLayer", type := (.object "java/lang/ModuleLayer"), accessFlags := 8, slot := 13, constantValue := 0 }]
  methods := #[k4m0, k4m1]
  instanceTypes := #[]
  staticTypes := #[(.object "java/io/InputStream"), (.object "java/io/PrintStream"), (.object "java/io/PrintStream"), (.object "java/io/InputStream"), .int, .int, .int, (.object "java/lang/SecurityManager"), (.object "java/lang/String"), (.object "java/io/Console"), (.object "java/io/PrintStream"), (.object "java/util/Properties"), (.object "java/lang/String"), (.object "java/lang/ModuleLayer")]
  resolved := Array.replicate 834 none
  statics := none }

def pool5 : Array CpInfo := pool [(1, .class_ 2), (0, u "java/lang/Math"), (1, .class_ 6), (1, u "java/lang/Object"), (0, u "<init>"), (0, u "()V"), (89, .class_ 100), (1, u "java/lang/Math$RandomNumberGeneratorHolder"), (71, u "negativeZeroFloatBits"), (0, u "J"), (2, u "negativeZeroDoubleBits"), (24, u "min"), (43, u "$assertionsDisabled"), (0, u "Z"), (88, u "(II)I"), (2, u "twoToTheDoubleScaleDown"), (0, u "D"), (4, u "twoToTheDoubleScaleUp"), (9, u "E"), (3, u "PI"), (2, u "TAU"), (2, u "DEGREES_TO_RADIANS"), (0, u "RADIANS_TO_DEGREES")] 94

def k5m0 : Method := { name := "<init>", desc := "()V", sig := { parameters := [], returnType := none }, accessFlags := 2, code := none }
def k5c1 : Code := { maxStack := 2, maxLocals := 2, code := jdk_29_method_69_code, exceptionTable := #[], attributes := #[] }
def k5m1 : Method := { name := "min", desc := "(II)I", sig := { parameters := [.int, .int], returnType := some .int }, accessFlags := 9, code := some k5c1 }
/-- java/lang/Math -/
def k5 : Class := { plain "java/lang/Math" (some 0) with
  accessFlags := 49
  interfaces := #[]
  cf := some (fileOf pool5 1 #[.nestMembers #[98]] #[{ accessFlags := 2, nameIndex := 7, descriptorIndex := 8, attributes := #[] }, { accessFlags := 9, nameIndex := 201, descriptorIndex := 335, attributes := #[] }] 49 4 #[] #[{ accessFlags := 25, nameIndex := 354, descriptorIndex := 339, attributes := #[] }, { accessFlags := 25, nameIndex := 358, descriptorIndex := 339, attributes := #[] }, { accessFlags := 25, nameIndex := 361, descriptorIndex := 339, attributes := #[] }, { accessFlags := 26, nameIndex := 364, descriptorIndex := 339, attributes := #[] }, { accessFlags := 26, nameIndex := 365, descriptorIndex := 339, attributes := #[] }, { accessFlags := 26, nameIndex := 172, descriptorIndex := 173, attributes := #[] }, { accessFlags := 26, nameIndex := 176, descriptorIndex := 173, attributes := #[] }, { accessFlags := 8, nameIndex := 344, descriptorIndex := 339, attributes := #[] }, { accessFlags := 8, nameIndex := 338, descriptorIndex := 339, attributes := #[] }, { accessFlags := 4120, nameIndex := 245, descriptorIndex := 246, attributes := #[] }])
  fields := #[{ name := "E", type := .double, accessFlags := 25, slot := 0, constantValue := 0 }, { name := "PI", type := .double, accessFlags := 25, slot := 1, constantValue := 0 }, { name := "TAU", type := .double, accessFlags := 25, slot := 2, constantValue := 0 }, { name := "DEGREES_TO_RADIANS", type := .double, accessFlags := 26, slot := 3, constantValue := 0 }, { name := "RADIANS_TO_DEGREES", type := .double, accessFlags := 26, slot := 4, constantValue := 0 }, { name := "negativeZeroFloatBits", type := .long, accessFlags := 26, slot := 5, constantValue := 0 }, { name := "negativeZeroDoubleBits", type := .long, accessFlags := 26, slot := 6, constantValue := 0 }, { name := "twoToTheDoubleScaleUp", type := .double, accessFlags := 8, slot := 7, constantValue := 0 }, { name := "twoToTheDoubleScaleDown", type := .double, accessFlags := 8, slot := 8, constantValue := 0 }, { name := "$assertionsDisabled", type := .boolean, accessFlags := 4120, slot := 9, constantValue := 0 }]
  methods := #[k5m0, k5m1]
  instanceTypes := #[]
  staticTypes := #[.double, .double, .double, .double, .double, .long, .long, .double, .double, .boolean]
  resolved := Array.replicate 460 none
  statics := none }

def pool6 : Array CpInfo := pool [(1, u "java/lang/Cloneable"), (0, .class_ 1), (0, u "java/lang/Object"), (0, .class_ 3)] 3

/-- java/lang/Cloneable -/
def k6 : Class := { plain "java/lang/Cloneable" (some 0) with
  accessFlags := 1537
  interfaces := #[]
  cf := some (fileOf pool6 2 #[] #[] 1537 4 #[] #[])
  fields := #[]
  methods := #[]
  instanceTypes := #[]
  staticTypes := #[]
  resolved := Array.replicate 8 none
  statics := none }

def pool7 : Array CpInfo := pool [(1, u "java/io/Serializable"), (0, .class_ 1), (0, u "java/lang/Object"), (0, .class_ 3)] 3

/-- java/io/Serializable -/
def k7 : Class := { plain "java/io/Serializable" (some 0) with
  accessFlags := 1537
  interfaces := #[]
  cf := some (fileOf pool7 2 #[] #[] 1537 4 #[] #[])
  fields := #[]
  methods := #[]
  instanceTypes := #[]
  staticTypes := #[]
  resolved := Array.replicate 8 none
  statics := none }

/-- the primitive byte -/
def k8 : Class := { plain "byte" none with kind := .primitive 'B', accessFlags := 0x411 }
/-- [B -/
def k9 : Class := { plain "[B" (some 0) with kind := .array 8 .byte, interfaces := #[6, 7], accessFlags := 1041 }

/-- the primitive int -/
def k10 : Class := { plain "int" none with kind := .primitive 'I', accessFlags := 0x411 }
/-- [I -/
def k11 : Class := { plain "[I" (some 0) with kind := .array 10 .int, interfaces := #[6, 7], accessFlags := 1041 }

def heap : Heap := #[]
def classes : Array Class := #[k0, k1, k2, k3, k4, k5, k6, k7, k8, k9, k10, k11]
def interned : List (Array UInt16 × Addr) := []
def slotsUsed : Nat := 0
def theMethod : MethodId := ⟨1, 3⟩
def args0 : Array Value := #[.int 5, .int 6, .int 7, .int 9, .int 3]
def aboutOver (below : List Frame) : State where
  vm := { classes := classes, interned := interned.toArray }
  heap := heap
  slotsUsed := slotsUsed
  threads := #[{ frames := .invoking theMethod args0 :: below }]
def below0 : List Frame := [.native { method := ⟨0, 0⟩, args := #[] }]
def about1 : State := aboutOver below0
def p0 : Program := .bare "" "" ""
def e0 : Env := launch0.env 0 0 0
theorem w_frames : about1.frames = Frame.invoking theMethod args0 :: below0 := rfl
set_option maxRecDepth 65536 in
theorem w_args : argsFit about1.vm theMethod args0 = true := by decide +kernel
set_option maxRecDepth 65536 in
theorem w_heap : heapFits about1 = true := by decide +kernel
set_option maxRecDepth 65536 in
theorem w_runnable : about1.curStatus? = some .runnable := by decide +kernel
set_option maxRecDepth 65536 in
theorem w_alone : about1.alone = true := by decide +kernel
set_option maxRecDepth 65536 in
theorem w_named : about1.methodNamed? x = some theMethod := by decide +kernel
set_option maxRecDepth 65536 in
theorem w_hears : about1.hears theMethod below0 = true := by decide +kernel
set_option maxRecDepth 65536 in
theorem w_ripe : about1.ripe theMethod args0 below0 = true := by decide +kernel
theorem w_running : about1.status = .running := rfl
set_option maxRecDepth 65536 in
theorem w_room : about1.hasRoom e0.platform room_1 = true :=
  launch0.hasRoom_least _ room_1 (by decide +kernel) (by decide +kernel) (by decide +kernel) (by decide +kernel) (by decide +kernel) (by decide +kernel)
theorem allAtoms_all (ts : List Jvm.Cond) (a : Array Jvm.Value) (st : Jvm.State) : (allAtoms ts).before a st = ts.all (fun c => c.before a st) := by
  induction ts with
  | nil => rfl
  | cons c t ih =>
    show (Jvm.Cond.and c (allAtoms t)).before a st = _
    rw [Jvm.Cond.before_and, ih, List.all_cons]
def words1 : List Jvm.Cond := Jvm.Cond.code x code maxLocals ret :: tables_1
/-- a 'code' word, met by the world's own term for the bytes: nothing is compared byte by byte -/
theorem code_word {y : MethodName} {bytes : ByteArray} {mx : Nat} {rt : Option FieldType} {a : Array Value} {s : State} {m : MethodId} {meth : Method} {c : Code} (h1 : s.methodNamed? y = some m) (h2 : s.vm.method? m = some meth) (h3 : meth.code = some c) (h4 : c.code = bytes)
    (h5 : (c.maxLocals == mx && c.exceptionTable.isEmpty && decide (c.maxStack ≤ mostOperands) && decide (meth.sig.returnType = rt) && !meth.locks && decide (parseMethodDescriptor y.desc = some meth.sig)) = true) : (Jvm.Cond.code y bytes mx rt).before a s = true := by
  simp only [Bool.and_eq_true, beq_iff_eq, Bool.not_eq_true', decide_eq_true_eq] at h5
  obtain ⟨⟨⟨⟨⟨g1, g2⟩, g3⟩, g4⟩, g5⟩, g6⟩ := h5
  simp [Cond.before, Cond.holds, Cond.value, h1, h2, h3, h4, g1, g2, g3, g4, g5, g6]
def isCode : Jvm.Cond → Bool
  | .code _ _ _ _ => true
  | _ => false
theorem all_split {L : List Jvm.Cond} {P : Jvm.Cond → Bool} (h1 : L.all (fun c => isCode c || P c) = true) (h2 : ∀ c ∈ L.filter isCode, P c = true) : L.all P = true := by
  refine List.all_eq_true.mpr fun c hc => ?_
  have h := List.all_eq_true.mp h1 c hc
  rcases Bool.eq_false_or_eq_true (isCode c) with hi | hi
  · exact h2 c (List.mem_filter.mpr ⟨hc, hi⟩)
  · simpa [hi] using h
set_option maxRecDepth 65536 in
theorem w_c0 : (Jvm.Cond.code x code maxLocals ret).before args0 about1 = true := code_word (m := ⟨1, 3⟩) (meth := k1m3) (c := k1c3) (by decide +kernel) rfl rfl rfl (by decide +kernel)
set_option maxRecDepth 65536 in
theorem w_c1 : (Jvm.Cond.code ({ cls := "com/example/opaque_cohort/opaquecohort/CodeTallyHoldsPinLaw", name := "code", desc := "(I)I" } : Jvm.MethodName) method_2_code (1 : Nat) (Option.some Jvm.ClassFile.FieldType.int)).before args0 about1 = true := code_word (m := ⟨1, 1⟩) (meth := k1m1) (c := k1c1) (by decide +kernel) rfl rfl rfl (by decide +kernel)
set_option maxRecDepth 65536 in
theorem w_c2 : (Jvm.Cond.code ({ cls := "com/example/opaque_cohort/opaquecohort/CodeTally", name := "<init>", desc := "()V" } : Jvm.MethodName) prog_1_method_1_code (1 : Nat) (Option.none : Option Jvm.ClassFile.FieldType)).before args0 about1 = true := code_word (m := ⟨2, 0⟩) (meth := k2m0) (c := k2c0) (by decide +kernel) rfl rfl rfl (by decide +kernel)
set_option maxRecDepth 65536 in
theorem w_c3 : (Jvm.Cond.code ({ cls := "java/lang/Object", name := "<init>", desc := "()V" } : Jvm.MethodName) object_method_1_code (1 : Nat) (Option.none : Option Jvm.ClassFile.FieldType)).before args0 about1 = true := code_word (m := ⟨0, 0⟩) (meth := k0m0) (c := k0c0) (by decide +kernel) rfl rfl rfl (by decide +kernel)
set_option maxRecDepth 65536 in
theorem w_c4 : (Jvm.Cond.code ({ cls := "com/example/opaque_cohort/opaquecohort/CodeTally", name := "add", desc := "(I)V" } : Jvm.MethodName) prog_1_method_2_code (4 : Nat) (Option.none : Option Jvm.ClassFile.FieldType)).before args0 about1 = true := code_word (m := ⟨2, 1⟩) (meth := k2m1) (c := k2c1) (by decide +kernel) rfl rfl rfl (by decide +kernel)
set_option maxRecDepth 65536 in
theorem w_c5 : (Jvm.Cond.code ({ cls := "java/util/Arrays", name := "binarySearch", desc := "([IIII)I" } : Jvm.MethodName) jdk_65_method_58_code (4 : Nat) (Option.some Jvm.ClassFile.FieldType.int)).before args0 about1 = true := code_word (m := ⟨3, 2⟩) (meth := k3m2) (c := k3c2) (by decide +kernel) rfl rfl rfl (by decide +kernel)
set_option maxRecDepth 65536 in
theorem w_c6 : (Jvm.Cond.code ({ cls := "java/util/Arrays", name := "rangeCheck", desc := "(III)V" } : Jvm.MethodName) jdk_65_method_30_code (3 : Nat) (Option.none : Option Jvm.ClassFile.FieldType)).before args0 about1 = true := code_word (m := ⟨3, 1⟩) (meth := k3m1) (c := k3c1) (by decide +kernel) rfl rfl rfl (by decide +kernel)
set_option maxRecDepth 65536 in
theorem w_c7 : (Jvm.Cond.code ({ cls := "java/util/Arrays", name := "binarySearch0", desc := "([IIII)I" } : Jvm.MethodName) jdk_65_method_59_code (8 : Nat) (Option.some Jvm.ClassFile.FieldType.int)).before args0 about1 = true := code_word (m := ⟨3, 3⟩) (meth := k3m3) (c := k3c3) (by decide +kernel) rfl rfl rfl (by decide +kernel)
set_option maxRecDepth 65536 in
theorem w_c8 : (Jvm.Cond.code ({ cls := "java/util/Arrays", name := "copyOf", desc := "([II)[I" } : Jvm.MethodName) jdk_65_method_123_code (3 : Nat) (Option.some (Jvm.ClassFile.FieldType.array Jvm.ClassFile.FieldType.int))).before args0 about1 = true := code_word (m := ⟨3, 4⟩) (meth := k3m4) (c := k3c4) (by decide +kernel) rfl rfl rfl (by decide +kernel)
set_option maxRecDepth 65536 in
theorem w_c9 : (Jvm.Cond.code ({ cls := "java/lang/Math", name := "min", desc := "(II)I" } : Jvm.MethodName) jdk_29_method_69_code (2 : Nat) (Option.some Jvm.ClassFile.FieldType.int)).before args0 about1 = true := code_word (m := ⟨5, 1⟩) (meth := k5m1) (c := k5c1) (by decide +kernel) rfl rfl rfl (by decide +kernel)
set_option maxRecDepth 65536 in
theorem w_c10 : (Jvm.Cond.code ({ cls := "com/example/opaque_cohort/opaquecohort/CodeTallyHoldsPinLaw", name := "eq", desc := "(II)I" } : Jvm.MethodName) method_3_code (2 : Nat) (Option.some Jvm.ClassFile.FieldType.int)).before args0 about1 = true := code_word (m := ⟨1, 2⟩) (meth := k1m2) (c := k1c2) (by decide +kernel) rfl rfl rfl (by decide +kernel)
set_option maxRecDepth 65536 in
theorem w_c11 : (Jvm.Cond.code ({ cls := "com/example/opaque_cohort/opaquecohort/CodeTally", name := "holds", desc := "(I)Z" } : Jvm.MethodName) prog_1_method_4_code (3 : Nat) (Option.some Jvm.ClassFile.FieldType.boolean)).before args0 about1 = true := code_word (m := ⟨2, 3⟩) (meth := k2m3) (c := k2c3) (by decide +kernel) rfl rfl rfl (by decide +kernel)
set_option maxRecDepth 65536 in
theorem w_c12 : (Jvm.Cond.code ({ cls := "com/example/opaque_cohort/opaquecohort/CodeTally", name := "remove", desc := "(I)V" } : Jvm.MethodName) prog_1_method_3_code (3 : Nat) (Option.none : Option Jvm.ClassFile.FieldType)).before args0 about1 = true := code_word (m := ⟨2, 2⟩) (meth := k2m2) (c := k2c2) (by decide +kernel) rfl rfl rfl (by decide +kernel)
def codes1 : List Jvm.Cond := [Jvm.Cond.code x code maxLocals ret, Jvm.Cond.code ({ cls := "com/example/opaque_cohort/opaquecohort/CodeTallyHoldsPinLaw", name := "code", desc := "(I)I" } : Jvm.MethodName) method_2_code (1 : Nat) (Option.some Jvm.ClassFile.FieldType.int), Jvm.Cond.code ({ cls := "com/example/opaque_cohort/opaquecohort/CodeTally", name := "<init>", desc := "()V" } : Jvm.MethodName) prog_1_method_1_code (1 : Nat) (Option.none : Option Jvm.ClassFile.FieldType), Jvm.Cond.code ({ cls := "java/lang/Object", name := "<init>", desc := "()V" } : Jvm.MethodName) object_method_1_code (1 : Nat) (Option.none : Option Jvm.ClassFile.FieldType), Jvm.Cond.code ({ cls := "com/example/opaque_cohort/opaquecohort/CodeTally", name := "add", desc := "(I)V" } : Jvm.MethodName) prog_1_method_2_code (4 : Nat) (Option.none : Option Jvm.ClassFile.FieldType), Jvm.Cond.code ({ cls := "java/util/Arrays", name := "binarySearch", desc := "([IIII)I" } : Jvm.MethodName) jdk_65_method_58_code (4 : Nat) (Option.some Jvm.ClassFile.FieldType.int), Jvm.Cond.code ({ cls := "java/util/Arrays", name := "rangeCheck", desc := "(III)V" } : Jvm.MethodName) jdk_65_method_30_code (3 : Nat) (Option.none : Option Jvm.ClassFile.FieldType), Jvm.Cond.code ({ cls := "java/util/Arrays", name := "binarySearch0", desc := "([IIII)I" } : Jvm.MethodName) jdk_65_method_59_code (8 : Nat) (Option.some Jvm.ClassFile.FieldType.int), Jvm.Cond.code ({ cls := "java/util/Arrays", name := "copyOf", desc := "([II)[I" } : Jvm.MethodName) jdk_65_method_123_code (3 : Nat) (Option.some (Jvm.ClassFile.FieldType.array Jvm.ClassFile.FieldType.int)), Jvm.Cond.code ({ cls := "java/lang/Math", name := "min", desc := "(II)I" } : Jvm.MethodName) jdk_29_method_69_code (2 : Nat) (Option.some Jvm.ClassFile.FieldType.int), Jvm.Cond.code ({ cls := "com/example/opaque_cohort/opaquecohort/CodeTallyHoldsPinLaw", name := "eq", desc := "(II)I" } : Jvm.MethodName) method_3_code (2 : Nat) (Option.some Jvm.ClassFile.FieldType.int), Jvm.Cond.code ({ cls := "com/example/opaque_cohort/opaquecohort/CodeTally", name := "holds", desc := "(I)Z" } : Jvm.MethodName) prog_1_method_4_code (3 : Nat) (Option.some Jvm.ClassFile.FieldType.boolean), Jvm.Cond.code ({ cls := "com/example/opaque_cohort/opaquecohort/CodeTally", name := "remove", desc := "(I)V" } : Jvm.MethodName) prog_1_method_3_code (3 : Nat) (Option.none : Option Jvm.ClassFile.FieldType)]
set_option maxRecDepth 65536 in
theorem codes_eq : words1.filter isCode = codes1 := rfl
theorem w_codes : ∀ c ∈ words1.filter isCode, c.before args0 about1 = true := by
  rw [codes_eq]
  intro c hc
  simp only [codes1, List.mem_cons, List.not_mem_nil, or_false] at hc
  rcases hc with rfl | rfl | rfl | rfl | rfl | rfl | rfl | rfl | rfl | rfl | rfl | rfl | rfl
  · exact w_c0
  · exact w_c1
  · exact w_c2
  · exact w_c3
  · exact w_c4
  · exact w_c5
  · exact w_c6
  · exact w_c7
  · exact w_c8
  · exact w_c9
  · exact w_c10
  · exact w_c11
  · exact w_c12
set_option maxRecDepth 65536 in
theorem w_t1 : (words1.take 24).all (fun c => isCode c || c.before args0 about1) = true := by decide +kernel
set_option maxRecDepth 65536 in
theorem w_t2 : ((words1.drop 24).take 24).all (fun c => isCode c || c.before args0 about1) = true := by decide +kernel
set_option maxRecDepth 65536 in
theorem w_t3 : ((words1.drop 24).drop 24).all (fun c => isCode c || c.before args0 about1) = true := by decide +kernel
theorem w_tables : (allAtoms (Jvm.Cond.code x code maxLocals ret :: tables_1)).before args0 about1 = true := by
  rw [allAtoms_all]
  show words1.all (fun c => c.before args0 about1) = true
  refine all_split ?_ w_codes
  rw [← List.take_append_drop 24 words1, List.all_append, w_t1, ← List.take_append_drop 24 (words1.drop 24), List.all_append, w_t2, w_t3]
  rfl
set_option maxRecDepth 65536 in
theorem w_case : (Jvm.Cond.and given_1 narrow_1).before args0 about1 = true := by decide +kernel
theorem w_applies : (headSpec (Jvm.Cond.code x code maxLocals ret :: tables_1) room_1).applies x e0.platform about1 = true :=
  (Spec.applies_iff w_frames).mpr ⟨w_running, w_runnable, w_alone, w_named, w_hears, w_ripe, w_room, w_tables⟩
theorem atStart : AtStart classFile x code maxLocals ret World_1 tables_1 room_1 Calls_1 rest_1 Pre_1 launch0 p0 e0 about1 theMethod args0 below0 :=
  ⟨lists_1, trivial, launch0.admits_env _ _ _, launch0.least_env, fairChoices_fair.cas, fairChoices_fair.clock, w_frames, w_args, w_heap, w_applies, trivial, trivial, w_case⟩
end start1
theorem witness_1 : WitnessClaimed_1 := ⟨start1.p0, start1.e0, start1.about1, start1.theMethod, start1.args0, start1.below0, start1.atStart⟩
end Jvm.Pilot.@@N@@
