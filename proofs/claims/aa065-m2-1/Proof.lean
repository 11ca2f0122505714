import JvmDerived
import JvmDerived.Pilot.@@N@@Statement
import JvmDerived.Pilot.@@N@@Code
set_option linter.unusedVariables false
set_option linter.unusedSimpArgs false
namespace Jvm.Pilot.@@N@@
open Jvm Jvm.ClassFile Sem Op Lib Jvm.Free Jvm.Stand Jvm.LawKit Jvm.RoadKit Bundle Jvm.Pilot.@@N@@.Jvm.D
section Own
variable {p : Program} {l : Launch} {e : Env} {R : Room} {s : State} {m : MethodId} {args : Array Value} {below : List Frame} {meth : Method} {c : Code} {T : State} {locs : List Loc} {cells slots : Nat} {G : State → Outcome → Prop}
def Go (p : Program) (e : Env) (below : List Frame) (G : State → Outcome → Prop) (st : State) : Prop := ∃ s₂ o, Steps p.tables e below st s₂ ∧ s₂.status = .running ∧ Ended s₂ below o ∧ G s₂ o
theorem Go.st {A B : State} (k : ∀ t, Steps p.tables e below B t → Steps p.tables e below A t) (h : Go p e below G B) : Go p e below G A := by
  obtain ⟨s₂, o, h1, h2⟩ := h
  exact ⟨s₂, o, k _ h1, h2⟩
theorem Go.tr {A B : State} (k : Steps p.tables e below A B) (h : Go p e below G B) : Go p e below G A := by
  obtain ⟨s₂, o, h1, h2⟩ := h
  exact ⟨s₂, o, k.trans h1, h2⟩
theorem Go.retW (X : Stand p l e R s m args below meth c T locs cells slots) (hx : p.tables.exec = Jvm.exec) {t : FieldType} (hret : meth.sig.returnType = some t) {w : Value} {i : Instr} (hn : narrow t w = w)
    (hi : (i = .ireturn ∧ (t = .int ∨ t = .boolean ∨ t = .byte ∨ t = .char ∨ t = .short) ∧ ∃ z, w = .int z) ∨ (i = .lreturn ∧ t = .long ∧ ∃ z, w = .long z) ∨ (i = .dreturn ∧ t = .double ∧ ∃ z, w = .double z) ∨ (i = .freturn ∧ t = .float ∧ ∃ z, w = .float z) ∨ (i = .areturn ∧ t.isReference = true ∧ w.isRef = true))
    (hlk : meth.locks = false) {pc : Nat} {Ls : Array Slot} {rest : List Value} (hd : decode c.code pc = .ok (i, 1)) {C S : Nat} {Q : Option Value → Heap → List Loc → Prop} (hC : cells ≤ C) (hS : slots ≤ S) (q : Q (some w) T.heap locs) :
    Go p e below (fun s₂ o => ∃ v L, o = .returned v ∧ Q v s₂.heap L ∧ FrameEnd s o s₂ L C S) (T.setTop (mkF m pc Ls (w :: rest))) := by
  obtain ⟨fs, hr, hrun, hended, hW, hsame⟩ := X.leave (v := some w) (fun h => by rw [hret] at h; cases h) hlk
  exact ⟨_, _, retOut X hx hret hn hi hd hr, hrun, hended, _, _, rfl, q, ⟨_, rfl⟩, hW, hsame.mono hC hS⟩
theorem Go.retN (X : Stand p l e R s m args below meth c T locs cells slots) (hx : p.tables.exec = Jvm.exec) {t : FieldType} (hret : meth.sig.returnType = some t) (ht : t = .boolean ∨ t = .byte ∨ t = .char ∨ t = .short) (hlk : meth.locks = false) {pc : Nat} {Ls : Array Slot} {z : Int32} {rest : List Value} (hd : decode c.code pc = .ok (.ireturn, 1))
    {C S : Nat} {Q : Option Value → Heap → List Loc → Prop} (hC : cells ≤ C) (hS : slots ≤ S) (q : Q (some (.int (nar t z))) T.heap locs) :
    Go p e below (fun s₂ o => ∃ v L, o = .returned v ∧ Q v s₂.heap L ∧ FrameEnd s o s₂ L C S) (T.setTop (mkF m pc Ls (.int z :: rest))) := by
  obtain ⟨fs, hr, hrun, hended, hW, hsame⟩ := X.leave (v := some (.int (nar t z))) (fun h => by rw [hret] at h; cases h) hlk
  exact ⟨_, _, Jvm.RoadKit.retN X hx hret ht hd hr, hrun, hended, _, _, rfl, q, ⟨_, rfl⟩, hW, hsame.mono hC hS⟩
theorem Go.retI (X : Stand p l e R s m args below meth c T locs cells slots) (hx : p.tables.exec = Jvm.exec) (hret : meth.sig.returnType = some .int) (hlk : meth.locks = false) {pc : Nat} {Ls : Array Slot} {z : Int32} {rest : List Value} (hd : decode c.code pc = .ok (.ireturn, 1))
    {C S : Nat} {Q : Option Value → Heap → List Loc → Prop} (hC : cells ≤ C) (hS : slots ≤ S) (q : Q (some (.int z)) T.heap locs) :
    Go p e below (fun s₂ o => ∃ v L, o = .returned v ∧ Q v s₂.heap L ∧ FrameEnd s o s₂ L C S) (T.setTop (mkF m pc Ls (.int z :: rest))) :=
  Go.retW X hx hret rfl (Or.inl ⟨rfl, Or.inl rfl, z, rfl⟩) hlk hd hC hS q
theorem Go.retL (X : Stand p l e R s m args below meth c T locs cells slots) (hx : p.tables.exec = Jvm.exec) (hret : meth.sig.returnType = some .long) (hlk : meth.locks = false) {pc : Nat} {Ls : Array Slot} {z : Int64} {rest : List Value} (hd : decode c.code pc = .ok (.lreturn, 1))
    {C S : Nat} {Q : Option Value → Heap → List Loc → Prop} (hC : cells ≤ C) (hS : slots ≤ S) (q : Q (some (.long z)) T.heap locs) :
    Go p e below (fun s₂ o => ∃ v L, o = .returned v ∧ Q v s₂.heap L ∧ FrameEnd s o s₂ L C S) (T.setTop (mkF m pc Ls (.long z :: rest))) :=
  Go.retW X hx hret rfl (Or.inr (Or.inl ⟨rfl, rfl, z, rfl⟩)) hlk hd hC hS q
theorem Go.retA (X : Stand p l e R s m args below meth c T locs cells slots) (hx : p.tables.exec = Jvm.exec) {t : FieldType} (hret : meth.sig.returnType = some t) {w : Value} (ht : t.isReference = true) (hw : w.isRef = true) (hlk : meth.locks = false) {pc : Nat} {Ls : Array Slot} {rest : List Value} (hd : decode c.code pc = .ok (.areturn, 1))
    {C S : Nat} {Q : Option Value → Heap → List Loc → Prop} (hC : cells ≤ C) (hS : slots ≤ S) (q : Q (some w) T.heap locs) :
    Go p e below (fun s₂ o => ∃ v L, o = .returned v ∧ Q v s₂.heap L ∧ FrameEnd s o s₂ L C S) (T.setTop (mkF m pc Ls (w :: rest))) :=
  Go.retW X hx hret (by rcases ref_cases hw with rfl | ⟨a, rfl⟩ <;> cases t <;> first | rfl | cases ht) (Or.inr (Or.inr (Or.inr (Or.inr ⟨rfl, ht, hw⟩)))) hlk hd hC hS q
theorem Go.retV (X : Stand p l e R s m args below meth c T locs cells slots) (hx : p.tables.exec = Jvm.exec) (hret : meth.sig.returnType = none) (hlk : meth.locks = false) {pc : Nat} {Ls : Array Slot} (hd : decode c.code pc = .ok (.return_, 1))
    {C S : Nat} {Q : Option Value → Heap → List Loc → Prop} (hC : cells ≤ C) (hS : slots ≤ S) (q : Q none T.heap locs) :
    Go p e below (fun s₂ o => ∃ v L, o = .returned v ∧ Q v s₂.heap L ∧ FrameEnd s o s₂ L C S) (T.setTop (mkF m pc Ls [])) := by
  obtain ⟨fs, hr, hrun, hended, hW, hsame⟩ := X.leave (v := none) (fun _ => rfl) hlk
  exact ⟨_, _, X.returnOut hx hret hd hr, hrun, hended, _, _, rfl, q, ⟨_, rfl⟩, hW, hsame.mono hC hS⟩
end Own
theorem own_self {Z s : State} {a0 args : Array Value} {y : MethodName} {n : Nat} (hZ : Z.Warmed39 s.vm) (wi : (Cond.instantiable y.cls n).before a0 Z = true) (wp : (Cond.privateMethod y).before a0 Z = true) (wm : (Cond.instanceMethod y).before a0 Z = true) (hy : y.cls ≠ "java/lang/invoke/MethodHandle" ∧ y.cls ≠ "java/lang/invoke/VarHandle") : (Cond.selects y.cls y y).before args s = true := by
  have wi' : (Cond.instantiable y.cls n).before args s = true := mv hZ wi
  obtain ⟨c, k, i1, i2, -, i4, -⟩ := Cond.instantiable_spec wi'
  simp only [Bool.or_eq_false_iff] at i4
  exact selects_self_of_private i1 i2 i4.1 (Cond.privateMethod_at (mvP hZ wp (args := #[]))) (mv hZ wm) hy
section OwnAV
variable {Z : State} {h h' : Heap} {a b : Addr} {ty : FieldType} {n : Int32} {ws : List Addr} {sl : Nat} {v d : Value} {k : ClassId} {vs : List Value}
def AV (Z : State) (h : Heap) (a : Addr) (ty : FieldType) (n : Int32) : Prop := ∃ c : Cell, Arr Z h a c ty ∧ c.slots.size = n.toNatClampNeg ∧ ¬ n < 0 ∧ ∀ (i : Nat) (v : Value), c.slots[i]? = some v → fits ty v = true
theorem AV.lt (F : AV Z h a ty n) : a < h.size := by obtain ⟨c, A, -⟩ := F; exact A.lt
theorem AV.ext (F : AV Z h a ty n) (E : Ext h h') : AV Z h' a ty n := by obtain ⟨c, A, r⟩ := F; exact ⟨c, A.ext E, r⟩
theorem AV.other (F : AV Z h a ty n) (W : Wr h h' b sl v) (q : a ≠ b) : AV Z h' a ty n := by obtain ⟨c, A, r⟩ := F; exact ⟨c, A.other W q, r⟩
theorem AV.keep (F : AV Z h a ty n) (K : Keep h h' ws) (q : a ∉ ws) : AV Z h' a ty n := by obtain ⟨c, A, r⟩ := F; exact ⟨c, ⟨K.2.1 a c A.1 q, A.2⟩, r⟩
theorem AV.of (F : Arv Z h a k ty n vs d) : AV Z h a ty n := by
  obtain ⟨c, A, -, S, q, H, G⟩ := F
  refine ⟨c, A, S, q, fun i w hw => ?_⟩
  have hi := (Array.getElem?_eq_some_iff.mp hw).1
  have := H i hi
  rw [hw] at this
  rw [Option.some.inj this]; exact G i hi
theorem AV.new (A : Arr Z h a (newA k ty n) ty) (q : ¬ n < 0) (fd : fits ty (defaultValue ty) = true) : AV Z h a ty n := by
  refine ⟨_, A, sz_new _ _ _, q, fun i w hw => ?_⟩
  simp only [newA, Array.getElem?_replicate] at hw
  split at hw
  · cases hw; exact fd
  · cases hw
theorem AV.set {c : Cell} (A : Arr Z h a c ty) (S : c.slots.size = n.toNatClampNeg) (q : ¬ n < 0) (G : ∀ (i : Nat) (v : Value), c.slots[i]? = some v → fits ty v = true) (hv : fits ty v = true) (W : Wr h h' a sl v) : AV Z h' a ty n := by
  refine ⟨_, A.same W, by rw [sz_set]; exact S, q, fun i w hw => ?_⟩
  by_cases e : sl = i
  · subst e
    have hi := (Array.getElem?_eq_some_iff.mp hw).1
    simp only [Cell.setSlot, Array.size_setIfInBounds] at hi
    simp [Cell.setSlot, hi] at hw
    subst hw; exact hv
  · simp only [Cell.setSlot] at hw
    rw [Array.getElem?_setIfInBounds_ne e] at hw
    exact G i w hw
theorem AV.arv (F : AV Z h a ty n) (d : Value) : ∃ k vs, Arv Z h a k ty n vs d ∧ vs.length = n.toNatClampNeg := by
  obtain ⟨c, A, S, q, G⟩ := F
  refine ⟨c.cls, c.slots.toList, ⟨c, A, rfl, S, q, fun i hi => ?_, fun i hi => ?_⟩, by simpa using S⟩
  · simp [List.getD_eq_getElem?_getD, hi]
  · refine G i _ ?_
    simp [List.getD_eq_getElem?_getD, hi]
end OwnAV
section OwnSync
variable {p : Program} {l : Launch} {e : Env} {R : Room} {s : State} {m : MethodId} {args : Array Value} {below : List Frame} {meth : Method} {c : Code} {T : State} {locs : List Loc} {cells slots : Nat} {Z : State} {a0 : Array Value} {h h' h0 : Heap} {a b : Addr}
/-- every place of the list lies in a cell of ws, or in one at or above k -/
def Bs (k : Nat) (ws : List Addr) (L : List Loc) : Prop := ∀ y ∈ L, y.base ∈ ws ∨ k ≤ y.base
theorem Bs.nil (k : Nat) (ws : List Addr) : Bs k ws [] := fun _ q => nomatch q
theorem Bs.app {k : Nat} {ws : List Addr} {L L' : List Loc} (N : Bs k ws L) (N' : Bs k ws L') : Bs k ws (L ++ L') := fun y q => (List.mem_append.mp q).elim (N y) (N' y)
theorem Bs.snoc {k : Nat} {ws : List Addr} {sl : Nat} (X : Stand p l e R s m args below meth c T (locs ++ [⟨a, sl⟩]) cells slots) (N : Bs k ws locs) (q : a ∈ ws ∨ k ≤ a) : Bs k ws (locs ++ [⟨a, sl⟩]) := N.app fun y hy => by cases List.mem_singleton.mp hy; exact q
theorem Bs.up {k k' : Nat} {ws ws' : List Addr} {L : List Loc} (N : Bs k' ws' L) (hk : k ≤ k') (hw : ∀ x ∈ ws', x ∈ ws ∨ k ≤ x) : Bs k ws L := fun y q => (N y q).elim (hw _) fun z => Or.inr (Nat.le_trans hk z)
theorem own_end {t : State} {o : Outcome} {L : List Loc} {k n : Nat} {ws : List Addr} (F : FrameEnd s o t L k n) (hL : Bs s.heap.size ws L) : Keep s.heap t.heap ws ∧ ∀ a, Unt s.heap a → Unt t.heap a := by
  obtain ⟨-, -, -, h2, -, -, -, h6⟩ := F
  have g : ∀ (x : Addr) (cl : Cell), s.heap[x]? = some cl → ∃ c' : Cell, t.heap[x]? = some c' ∧ c' = { cl with slots := c'.slots } ∧ c'.slots.size = cl.slots.size ∧ ∀ i, (⟨x, i⟩ : Loc) ∉ L → c'.slots[i]? = cl.slots[i]? := h6
  refine ⟨⟨h2, fun x cl hx hn => ?_, fun x cl hx => ?_⟩, fun x hx => ?_⟩
  · obtain ⟨c', q1, q2, q3, q4⟩ := g x cl hx
    have e : c'.slots = cl.slots := by
      apply Array.ext_getElem?
      intro i
      refine q4 i fun z => ?_
      rcases hL _ z with z | z
      · exact hn z
      · exact absurd (Array.getElem?_eq_some_iff.mp hx).1 (Nat.not_lt.mpr z)
    rw [q1, q2, e]
  · obtain ⟨c', q1, q2, q3, -⟩ := g x cl hx
    exact ⟨c', q1, by rw [q2], by rw [q2], q3⟩
  · obtain ⟨cl, u1, u2, u3⟩ := hx
    obtain ⟨c', q1, q2, -⟩ := g x cl u1
    exact ⟨c', q1, by rw [q2]; exact u2, by rw [q2]; exact u3⟩
/-- monitors stand as they stood -/
def MK (h h' : Heap) : Prop := ∀ (x : Addr) (cl : Cell), h[x]? = some cl → ∃ c' : Cell, h'[x]? = some c' ∧ c'.monitor = cl.monitor
theorem MK.refl (h : Heap) : MK h h := fun _ cl q => ⟨cl, q, rfl⟩
theorem MK.wr {sl : Nat} {v : Value} (K : MK h0 h) (W : Wr h h' a sl v) : MK h0 h' := fun x cl q => by
  obtain ⟨c1, q1, r1⟩ := K x cl q
  obtain ⟨cw, w1, -, -, rfl⟩ := W
  by_cases z : a = x
  · subst z
    cases w1.symm.trans q1
    exact ⟨c1.setSlot sl v, by simp [(Array.getElem?_eq_some_iff.mp w1).1], r1⟩
  · exact ⟨c1, by rw [Array.getElem?_setIfInBounds_ne z]; exact q1, r1⟩
def Own (h : Heap) (a : Addr) (i : ThreadId) : Prop := ∃ cl : Cell, h[a]? = some cl ∧ cl.monitor.owner = some i
theorem Own.mk {i : ThreadId} (K : MK h h') (F : Own h a i) : Own h' a i := by
  obtain ⟨cl, q, r⟩ := F
  obtain ⟨c', q', r'⟩ := K _ _ q
  exact ⟨c', q', by rw [r']; exact r⟩
/-- getfield over an entry that is resolved already -/
theorem getFR (X : Stand p l e R s m args below meth c T locs cells slots) (hx : p.tables.exec = Jvm.exec) (hZ : Z.Warmed39 s.vm) {own O n d : String} {index : Nat} (hown : s.vm.findClass own = some m.cls) (w : (Cond.fieldRef own index O n d).before a0 Z = true)
    (eT : T.heap = h) {v : Value} (F : Fld Z h a O n d v) {g : JFrame} (hg : g.method = m) {rest : List Value} (hs : g.stack = .ref a :: rest) (hd : decode c.code g.pc = .ok (.getfield index, 3)) :
    ∀ target, Steps p.tables e below (T.setTop { g with pc := g.pc + 3, stack := v :: rest }) target → Steps p.tables e below (T.setTop g) target := by
  obtain ⟨cell, cf, k, i, f, h1, h2, h3, h4, -, -, h7⟩ := F
  have hW : Z.Warmed39 T.vm := wtrans hZ X.warmed
  have w' := Cond.fieldRef_warmed39 hW w
  have hc : (Z.setVm T.vm).vm.findClass own = some m.cls := by show T.vm.findClass own = _; rw [X.warmed.alike.findClass]; exact hown
  obtain ⟨c1, k1, i1, f1, q1, q2⟩ := Cond.fieldRef_spec hc w'
  obtain ⟨k', hi, -⟩ := State.fieldFound?_setVm (s := Z) hW.alike h2
  cases hi.symm.trans q1
  intro target hr
  subst hg
  jvm_step X.here [hx, hd, getfield.wp_ready (e := e) (s := T) (f := g) X.here.top q2 h3 hs (by rw [eT]; exact h1) h4 h7]
  exact hr
theorem putFR (X : Stand p l e R s m args below meth c T locs cells slots) (hx : p.tables.exec = Jvm.exec) (hZ : Z.Warmed39 s.vm) {own O n d C : String} {index kk : Nat} {ty : FieldType} (hown : s.vm.findClass own = some m.cls) (w : (Cond.fieldRef own index O n d).before a0 Z = true)
    (eT : T.heap = h) {v old : Value} (F : Fld Z h a O n d old) (E : Exa Z h a C) (L : (Cond.lays C O n d).before a0 Z = true) (wi : (Cond.instantiable C kk).before a0 Z = true)
    (hty : parseFieldDescriptor d = some ty) (hn : narrow ty v = v) (hf : fits ty v = true) {g : JFrame} (hg : g.method = m) {rest : List Value} (hs : g.stack = v :: .ref a :: rest) (hd : decode c.code g.pc = .ok (.putfield index, 3)) :
    ∃ T' h', Stand p l e R s m args below meth c T' (locs ++ [⟨a, Jvm.RoadKit.slotOf Z O n d⟩]) cells slots ∧ T'.heap = h' ∧ Wr h h' a (Jvm.RoadKit.slotOf Z O n d) v ∧ ∀ target, Steps p.tables e below (T'.setTop { g with pc := g.pc + 3, stack := rest }) target → Steps p.tables e below (T.setTop g) target := by
  obtain ⟨cell, cf, k, i, f, h1, h2, h3, h4, h5, -, h7⟩ := F
  obtain ⟨cell', kc, e1, e2, e3, -⟩ := E
  cases h1.symm.trans e1
  obtain ⟨c1, k1, cf1, kf1, i1, f1, a1, a2, a3, -, b5, -, a6, -⟩ := Cond.lays_spec L
  cases h2.symm.trans a3
  cases e2.symm.trans a1
  obtain ⟨c2, k2, j1, j2, j3, -⟩ := Cond.instantiable_spec wi
  cases e2.symm.trans j1
  cases a2.symm.trans j2
  have ht := (State.fieldFound?_type h2 hty).2
  have hW : Z.Warmed39 T.vm := wtrans hZ X.warmed
  have hfit : Z.fitsSlot cell.cls cell.vm f.slot v = true := by
    have q : Z.slotType? cell.cls cell.vm f.slot = some ty := by
      simp only [State.slotType?, a2, Option.bind_eq_bind, Option.bind_some, j3]
      cases hq : cell.vm <;> first | (rw [hq] at h5; exact Bool.noConfusion h5) | (rw [a6, ht])
    simp [State.fitsSlot, q, hf]
  have hfit' : T.fitsSlot cell.cls cell.vm f.slot v = true := by rw [← State.fitsSlot_setVm hW.alike] at hfit; exact hfit
  have w' := Cond.fieldRef_warmed39 hW w
  have hc : (Z.setVm T.vm).vm.findClass own = some m.cls := by show T.vm.findClass own = _; rw [X.warmed.alike.findClass]; exact hown
  obtain ⟨c1, k1, i1, f1, q1, q2⟩ := Cond.fieldRef_spec hc w'
  obtain ⟨k', hi, -⟩ := State.fieldFound?_setVm (s := Z) hW.alike h2
  cases hi.symm.trans q1
  have hlt := (Array.getElem?_eq_some_iff.mp h7).1
  have es : Jvm.RoadKit.slotOf Z O n d = f.slot := by simp [Jvm.RoadKit.slotOf, h2]
  rw [es]
  obtain ⟨X', st⟩ := X.putfieldReady hx q2 h3 (Or.inl b5) (by rw [eT]; exact h1) h4 hlt (by rw [ht]; exact hn) hfit' hg hs hd
  exact ⟨_, _, X', rfl, ⟨cell, h1, h5, hlt, by rw [← eT]; rfl⟩, st⟩
/-- what methodRef says of the entry's class -/
theorem own_refNames (e : Env) {cls : String} {index cur : Nat} {x : MethodName} (hcur : s.vm.findClass cls = some cur) (hh : (Cond.methodRef cls index x).before args s = true) :
    ∃ m' c', s.methodFound? x.cls x.name x.desc = some m' ∧ s.vm.methodReady cur index m' ∧ s.vm.findClass x.cls = some c' ∧ Op.namesResolved s.vm cur index c' := by
  obtain ⟨m', c', ci, b, q1, q2, q3, q4, q5⟩ := Cond.methodRef_spec (e := e) hcur hh
  refine ⟨m', c', q1, q2, q3, ?_⟩
  have hn : s.names cls index (.method x.cls x.name x.desc) = true := by
    have h2 := hh
    simp only [Cond.before, Cond.holds, Cond.value, hcur, q1] at h2
    simp only [beq_iff_eq, Option.some.injEq, Bool.and_eq_true] at h2
    exact h2.1.1
  obtain ⟨cp, hcp, hnm⟩ := State.names_spec hn
  obtain ⟨ci', nt, hentry, hnt, -⟩ := namesOf?_method hnm
  obtain ⟨k, cf, hk, hcf, rfl⟩ := State.poolOf?_spec hcur hcp
  obtain ⟨b', hask⟩ := memberRef_ask' (e := e) hk hcf hentry hnt
  rw [q4] at hask
  cases hask
  exact ⟨k, cf, ci, nt, hk, hcf, hentry, q5⟩
theorem own_specialRef (X : Stand p l e R s m args below meth c T locs cells slots) (hexec : p.tables.exec = Jvm.exec) (hZ : Z.Warmed39 s.vm) {own : String} {index : Nat} {y : MethodName} (hy1 : y.name = "<init>")
    (hown : s.vm.findClass own = some m.cls) (w : (Cond.methodRef own index y).before a0 Z = true) (hinst : (Cond.instanceMethod y).before args s = true)
    {bytes : ByteArray} {maxL : Nat} (hcode : (Cond.code y bytes maxL none).before args s = true) (hy : y.cls ≠ "java/lang/invoke/MethodHandle" ∧ y.cls ≠ "java/lang/invoke/VarHandle")
    {W : Nat} {Pre : Pt → Array Value → Prop} {Post : Pt → Array Value → Option Value → Pt → Prop} (hK : Back l R p e below s args y 3 W Pre Post)
    {g : JFrame} (hg : g.method = m) (hsize : g.locals.size = c.maxLocals) {s₀ : State} (hcome : Steps p.tables e below s₀ (T.setTop g)) {a : Addr} {argsL rest : List Value}
    (hlen : ∀ sig, parseMethodDescriptor y.desc = some sig → argsL.length = sig.parameters.length) (hstack : g.stack = argsL.reverse ++ .ref a :: rest) (hW : 2 * g.monitorRoom + (rest.map fun v => v.category).sum ≤ W)
    (hdg : decode c.code g.pc = .ok (.invokespecial index, 3)) (hpre : ∀ vm₁, s.WarmedH vm₁ → Pre ⟨T.setVm vm₁, locs, cells, slots⟩ (.ref a :: argsL).toArray) :
    ∃ (v : Option Value) (vm₁ : Vm) (B : Pt), s.WarmedH vm₁ ∧ Stand p l e R s m args below meth c B.U B.locs B.cells B.slots ∧ Post ⟨T.setVm vm₁, locs, cells, slots⟩ (.ref a :: argsL).toArray v B ∧
      Steps p.tables e below s₀ (B.U.setTop { g with pc := g.pc + 3, stack := v.toList ++ rest }) := by
  have hWT : Z.Warmed39 T.vm := wtrans hZ X.warmed
  have hc : (Z.setVm T.vm).vm.findClass own = some m.cls := by show T.vm.findClass own = _; rw [X.warmed.alike.findClass]; exact hown
  obtain ⟨obj, methO, hnO, hmO, hstO, habO⟩ := Cond.instanceMethod_spec hinst
  have hnZ : Z.methodNamed? y = some obj := by
    have h1 : (Z.setVm s.vm).methodNamed? y = Z.methodNamed? y := State.methodNamed?_setVm hZ.alike y
    rw [← h1]; exact hnO
  have w' := Cond.methodRef_warmed39 hWT hnZ hy w
  obtain ⟨m', c', q1, q2, q3, q4⟩ := own_refNames e hc w'
  obtain ⟨methO', cO, hmO', hcO, hbO, hlO, -, hlockO, -, hsigO⟩ := Cond.code_spec hnO hcode
  cases hmO.symm.trans hmO'
  obtain ⟨kO, hkO, hnameO⟩ := className_of_methodNamed hnO
  obtain ⟨hnameMO, hdescO⟩ := name_of_methodNamed hnO hmO
  have alike := X.warmed.alike
  have hnT : (Z.setVm T.vm).methodNamed? y = some obj := by
    have h1 : (s.setVm T.vm).methodNamed? y = some obj := (State.methodNamed?_setVm alike y).trans hnO
    exact h1
  have hf2 : (Z.setVm T.vm).methodFound? y.cls y.name y.desc = some obj := State.methodFound?_of_named hnT hy
  cases q1.symm.trans hf2
  have hcls : c' = obj.cls := Option.some.inj (q3.symm.trans (findClass_of_methodNamed hnT))
  subst hcls
  obtain ⟨kO₂, hkO₂, heO₂⟩ := alike.2.2 _ _ hkO
  have hmO₂ : T.vm.method? obj = some methO := by rw [alike.method?]; exact hmO
  have hfound : lookupSpecial T.vm obj.cls "<init>" methO.desc = .method obj := by
    rw [alike.lookupSpecial, hdescO, ← hy1]; exact lookupSpecial_of_named hnO hmO hstO
  have hstep : ∀ target, (∀ acts, Steps p.tables e below (doInvoke e (T.setTop { g with stack := rest }) acts obj (.ref a :: argsL).toArray).1 target) → Steps p.tables e below (T.setTop g) target := by
    intro target hrest
    subst hg
    jvm_step X.here [hexec, hdg, invokespecial.wp_init (e := e) (s := T) (k := kO₂) (meth := methO) (m := obj) (a := a) (args := argsL) (rest := rest) (f := g)
      X.here.top q4 q2 hkO₂ hmO₂ (by rw [hnameMO]; exact hy1) hstO habO hfound (hlen _ hsigO) hstack]
    exact hrest
  have hp := hpre T.vm X.warmed
  obtain ⟨v, B, X', hpost, hsteps⟩ := hK m meth c ⟨T.setVm T.vm, locs, cells, slots⟩ { g with stack := rest } (.invokespecial index) obj (.ref a :: argsL).toArray X hg hsize hdg hW (X.named hnO) hp
  exact ⟨v, T.vm, B, X.warmed, X', hpost, (hcome.trans (hstep _ fun acts => by rw [doInvoke_state]; exact Steps.refl _)).trans hsteps⟩
theorem own_backSync {y : MethodName} {bytes : ByteArray} {maxL : Nat} {ret : Option FieldType} {rm : Room} {len W : Nat} {as' : Array Value} {Q : Option Value → Heap → List Loc → Prop}
    (hM : MetFree l y (head1 [Cond.codeSync y bytes maxL ret, Cond.instanceMethod y] rm) (fun ag U => ag = as' ∧ Z.Warmed39 U.vm ∧ U.heap = h ∧ ∃ cell : Cell, h[a]? = some cell ∧ cell.enterable U.cur) (fun _ _ _ _ _ => True) (fun _ U o U' => ∃ v L, o = .returned v ∧ Q v U'.heap L ∧ FrameEnd U o U' L rm.cells rm.slots))
    (hZ : Z.Warmed39 s.vm) (wc : (Cond.codeSync y bytes maxL ret).before a0 Z = true) (wi : (Cond.instanceMethod y).before a0 Z = true) (wz : (Cond.initialized y.cls).before a0 Z = true) (N : Unt h a) (hf : rm.frames + 1 ≤ R.frames) (hl : W + (maxL + 11) + rm.locals ≤ R.locals) :
    Back l R p e below s args y len W (fun A ag => ag = as' ∧ A.U.heap = h ∧ A.cells + rm.cells ≤ R.cells ∧ A.slots + rm.slots ≤ R.slots)
      (fun A _ v B => ∃ L, Q v B.U.heap L ∧ B.locs = A.locs ++ L ∧ B.cells = A.cells + rm.cells ∧ B.slots = A.slots + rm.slots) :=
  Jvm.Free.XT.back_of_sync (bytes := bytes) (maxL := maxL) (ret := ret) (E := fun _ _ o t L k n => k = rm.cells ∧ n = rm.slots ∧ ∃ v, o = .returned v ∧ Q v t.heap L) hM hf hl
    (fun m meth c A as Y hp => have hU : Z.Warmed39 A.U.vm := wtrans hZ Y.warmed
      ⟨by show (Cond.and _ (Cond.and _ .tt)).before as A.U = true; rw [Cond.before_and, Cond.before_and, mv hU wc, mv hU wi]; rfl, mv hU wc, mv hU wz, hp.2.2.1, hp.2.2.2⟩)
    (fun m meth c A as g mk Y hp => ⟨hp.1, wtrans hZ Y.warmed, hp.2.1, by obtain ⟨cl, u1, -, u3⟩ := N; exact ⟨cl, u1, by rw [Cell.enterable, u3]; simp⟩⟩)
    (fun _ _ _ _ _ _ _ _ _ => trivial)
    (fun _ _ _ _ ⟨v, L, h1, h2, h3⟩ => ⟨L, _, _, h3, rfl, rfl, v, h1, h2⟩)
    (fun m meth c A a g mk v t L k n Y hp _ _ ⟨e1, e2, v', e3, e4⟩ => by cases e3; subst e1 e2; exact ⟨L, e4, rfl, rfl, rfl⟩)
theorem Go.syncV {cell : Cell} (X : Stand p l e R (s.setCell a (cell.withEntry s.cur)) m args below meth c T locs cells slots) (hx : p.tables.exec = Jvm.exec) (hc : s.heap[a]? = some cell) (ho : cell.enterable s.cur) (hlk : meth.locks = true) (hret : meth.sig.returnType = none) {pc : Nat} {Ls : Array Slot} {st : List Value} (hd : decode c.code pc = .ok (.return_, 1))
    {C S : Nat} {Q : Option Value → Heap → List Loc → Prop} (hC : cells ≤ C) (hS : slots ≤ S) {ws : List Addr} (hB : Bs s.heap.size ws locs) (q : ∀ h', Mon T.heap h' → Keep s.heap h' ws → (∀ x, Unt s.heap x → Unt h' x) → Q none h' locs) :
    Go p e below (fun s₂ o => ∃ v L, o = .returned v ∧ Q v s₂.heap L ∧ FrameEnd s o s₂ L C S) (T.setTop (mkL a m pc Ls st)) := by
  obtain ⟨V, hr, hrun, hended, M1, hW, hsame⟩ := leaveS X hc ho hlk (v := none) (fun _ => rfl)
  have F : FrameEnd s (.returned none) V locs C S := ⟨⟨_, rfl⟩, hW, hsame.mono hC hS⟩
  exact ⟨V, _, retS0 X hx hret hd hr, hrun, hended, _, _, rfl, q _ M1 (own_end F hB).1 (own_end F hB).2, F⟩
theorem Go.syncA {cell : Cell} (X : Stand p l e R (s.setCell a (cell.withEntry s.cur)) m args below meth c T locs cells slots) (hx : p.tables.exec = Jvm.exec) (hc : s.heap[a]? = some cell) (ho : cell.enterable s.cur) (hlk : meth.locks = true) {t : FieldType} (hret : meth.sig.returnType = some t) (ht : t.isReference = true) {r : Addr} {pc : Nat} {Ls : Array Slot} {rest : List Value} (hd : decode c.code pc = .ok (.areturn, 1))
    {C S : Nat} {Q : Option Value → Heap → List Loc → Prop} (hC : cells ≤ C) (hS : slots ≤ S) {ws : List Addr} (hB : Bs s.heap.size ws locs) (q : ∀ h', Mon T.heap h' → Keep s.heap h' ws → (∀ x, Unt s.heap x → Unt h' x) → Q (some (.ref r)) h' locs) :
    Go p e below (fun s₂ o => ∃ v L, o = .returned v ∧ Q v s₂.heap L ∧ FrameEnd s o s₂ L C S) (T.setTop (mkL a m pc Ls (.ref r :: rest))) := by
  obtain ⟨V, hr, hrun, hended, M1, hW, hsame⟩ := leaveS X hc ho hlk (v := some (.ref r)) (fun h => by rw [hret] at h; cases h)
  have F : FrameEnd s (.returned (some (.ref r))) V locs C S := ⟨⟨_, rfl⟩, hW, hsame.mono hC hS⟩
  exact ⟨V, _, retS X hx hret (by cases t <;> first | rfl | cases ht) (Or.inr (Or.inr (Or.inr (Or.inr ⟨rfl, ht, rfl⟩)))) hd hr, hrun, hended, _, _, rfl, q _ M1 (own_end F hB).1 (own_end F hB).2, F⟩
theorem own_privNest (X : Stand p l e R s m args below meth c T locs cells slots) (hexec : p.tables.exec = Jvm.exec) {own host : String} {index : Nat} {y : MethodName} {bytes : ByteArray} {maxL : Nat} {ret : Option FieldType}
    (hown : s.vm.findClass own = some m.cls) (hlink : (Cond.methodLinkNest own index y host).before args s = true) (hinst : (Cond.instanceMethod y).before args s = true) (hsel : (Cond.selects y.cls y y).before args s = true)
    (hpriv : s.PrivateAt y) (hcode : (Cond.code y bytes maxL ret).before args s = true) (hy : y.cls ≠ "java/lang/invoke/MethodHandle" ∧ y.cls ≠ "java/lang/invoke/VarHandle")
    {W : Nat} {Pre : Free.Pt → Array Value → Prop} {Post : Free.Pt → Array Value → Option Value → Free.Pt → Prop} (hK : Free.Back l R p e below s args y 3 W Pre Post)
    {g : JFrame} (hg : g.method = m) (hsize : g.locals.size = c.maxLocals) {s₀ : State} (hcome : Steps p.tables e below s₀ (T.setTop g)) {a : Addr} {cell : Cell} (hcell : T.heap[a]? = some cell) (hobj : ∀ q, cell.vm ≠ .statics q)
    {argsL rest : List Value} (hlen : ∀ sig, parseMethodDescriptor y.desc = some sig → argsL.length = sig.parameters.length)
    (hstack : g.stack = argsL.reverse ++ .ref a :: rest) (hW : 2 * g.monitorRoom + (rest.map fun v => v.category).sum ≤ W) (hdg : decode c.code g.pc = .ok (.invokevirtual index, 3))
    (hpre : ∀ vm₁, s.WarmedH vm₁ → Pre ⟨T.setVm vm₁, locs, cells, slots⟩ (.ref a :: argsL).toArray) :
    ∃ (v : Option Value) (vm₁ : Vm) (B : Free.Pt), s.WarmedH vm₁ ∧ Stand p l e R s m args below meth c B.U B.locs B.cells B.slots ∧ Post ⟨T.setVm vm₁, locs, cells, slots⟩ (.ref a :: argsL).toArray v B ∧
      Steps p.tables e below s₀ (B.U.setTop { g with pc := g.pc + 3, stack := v.toList ++ rest }) := by
  obtain ⟨mk, methM, hnamed, hmethM, hstM, habM⟩ := Cond.instanceMethod_spec hinst
  obtain ⟨methM', cM, hmethM', -, -, -, -, -, -, hsigM⟩ := Cond.code_spec hnamed hcode
  cases hmethM.symm.trans hmethM'
  obtain ⟨c2, r2, m2, -, -, q3, -, kP, hkP, hkPi⟩ := Cond.selects_spec hsel
  cases hnamed.symm.trans q3
  have hselP : selectMethod e.platform s.vm cell.cls mk = .method mk := selectMethod_private hmethM (hpriv mk methM hnamed hmethM)
  obtain ⟨vm₁, X₁, hstep₁⟩ := X.invokevirtualNest hexec hown hlink hnamed hmethM hstM hkP hkPi hy (a := a) (cell := cell) hcell hobj hselP hmethM habM hkP hkPi (g := g) hg (argsL := argsL) (rest := rest) (hlen _ hsigM) hstack hdg
  have hW₁ : s.WarmedH vm₁ := X₁.warmed
  obtain ⟨v, B, X', hpost, hsteps⟩ := hK m meth c ⟨T.setVm vm₁, locs, cells, slots⟩ { g with stack := rest } (.invokevirtual index) mk (.ref a :: argsL).toArray X₁ hg hsize hdg hW (X₁.named hnamed) (hpre vm₁ hW₁)
  exact ⟨v, vm₁, B, hW₁, X', hpost, (hcome.trans (hstep₁ _ fun acts => by rw [doInvoke_state]; exact Steps.refl _)).trans hsteps⟩
theorem own_mvNM {own host : String} {index : Nat} {y : MethodName} (hZ : Z.Warmed39 s.vm) (w : (Cond.methodLinkNest own index y host).before a0 Z = true) : (Cond.methodLinkNest own index y host).before args s = true := (Cond.methodLinkNest_wide hZ w :)
abbrev mkE (a : Addr) (m : MethodId) (pc : Nat) (Ls : Array Slot) (st : List Value) : JFrame := { method := m, pc := pc, locals := Ls, stack := st, locked := none, entered := [a], monitorRoom := 1 }
abbrev mkX (m : MethodId) (pc : Nat) (Ls : Array Slot) (st : List Value) : JFrame := { method := m, pc := pc, locals := Ls, stack := st, locked := none, entered := [], monitorRoom := 1 }
theorem own_enter (X : Stand p l e R s m args below meth c T locs cells slots) (hx : p.tables.exec = Jvm.exec) {pc : Nat} {Ls : Array Slot} {rest : List Value} (hsz : Ls.size = c.maxLocals) (hd : decode c.code pc = .ok (.monitorenter, 1)) {cell : Cell} (hs : s.heap[a]? = some cell) (hT : T.heap[a]? = some cell) (hu : cell.monitor = {}) (hlk : meth.isSynchronized = false)
    (hroom : 2 * 1 + (rest.map fun v => v.category).sum ≤ R.locals) :
    ∃ T', Stand p l e R (s.setCell a (cell.withEntry s.cur)) m args below meth c T' locs cells slots ∧ Mon T.heap T'.heap ∧ Own T'.heap a s.cur ∧ ∀ target, Steps p.tables e below (T'.setTop (mkE a m (pc + 1) Ls rest)) target → Steps p.tables e below (T.setTop (mkF m pc Ls (.ref a :: rest))) target := by
  have hcur : T.cur = s.cur := Jvm.Stand.cur_eq X
  obtain ⟨X', st⟩ := X.monitorenterAt hx (g := mkF m pc Ls (.ref a :: rest)) rfl hsz rfl hd hs hT (Or.inl (by rw [hu])) hlk hroom
  rw [hcur] at X' st
  refine ⟨_, X', mon_set hT _, ⟨cell.withEntry s.cur, ?_, ?_⟩, st⟩
  · show (T.heap.setIfInBounds a _)[a]? = _
    simp [(Array.getElem?_eq_some_iff.mp hT).1]
  · simp [Cell.withEntry]
theorem own_exit {cell : Cell} (X : Stand p l e R (s.setCell a (cell.withEntry s.cur)) m args below meth c T locs cells slots) (hx : p.tables.exec = Jvm.exec) {pc : Nat} {Ls : Array Slot} {rest : List Value} (hd : decode c.code pc = .ok (.monitorexit, 1)) (hs : s.heap[a]? = some cell) (hu : cell.monitor = {}) (O : Own T.heap a s.cur) :
    ∃ T', Stand p l e R s m args below meth c T' locs cells slots ∧ Mon T.heap T'.heap ∧ ∀ target, Steps p.tables e below (T'.setTop (mkX m (pc + 1) Ls rest)) target → Steps p.tables e below (T.setTop (mkE a m pc Ls (.ref a :: rest))) target := by
  have hcur : T.cur = s.cur := (Jvm.Stand.cur_eq X).trans rfl
  obtain ⟨cT, q1, q2⟩ := O
  obtain ⟨X', st⟩ := X.monitorexitAt hx (g := mkE a m pc Ls (.ref a :: rest)) rfl rfl hd hs (by rw [Cell.enterable, hu]; simp) q1 (by rw [hcur]; exact q2) rfl
  refine ⟨_, X', ?_, st⟩
  show Mon T.heap (T.heap.setIfInBounds a cT.left)
  unfold Cell.left
  split <;> exact mon_set q1 _
theorem Go.retVX (X : Stand p l e R s m args below meth c T locs cells slots) (hx : p.tables.exec = Jvm.exec) (hret : meth.sig.returnType = none) (hlk : meth.locks = false) {pc : Nat} {Ls : Array Slot} (hd : decode c.code pc = .ok (.return_, 1))
    {C S : Nat} {Q : Option Value → Heap → List Loc → Prop} (hC : cells ≤ C) (hS : slots ≤ S) {ws : List Addr} (hB : Bs s.heap.size ws locs) (q : Keep s.heap T.heap ws → (∀ x, Unt s.heap x → Unt T.heap x) → Q none T.heap locs) :
    Go p e below (fun s₂ o => ∃ v L, o = .returned v ∧ Q v s₂.heap L ∧ FrameEnd s o s₂ L C S) (T.setTop (mkX m pc Ls [])) := by
  obtain ⟨fs, hr, hrun, hended, hW, hsame⟩ := X.leave (v := none) (fun _ => rfl) hlk
  have F : FrameEnd s (.returned none) (T.setFrames fs) locs C S := ⟨⟨_, rfl⟩, hW, hsame.mono hC hS⟩
  have hm' : T.vm.method? m = some meth := X.method'
  have hst : Steps p.tables e below (T.setTop (mkX m pc Ls [])) (T.setFrames fs) := by
    show Steps p.tables e below (T.setTop { method := m, pc := pc, locals := Ls, stack := [], locked := none, entered := [], monitorRoom := 1 }) _
    jvm_step X.here [X.here.top, hx, hd, hm', hret]
    first | (intro acts; rw [hr _ acts rfl rfl rfl]) | rw [hr _ _ rfl rfl rfl]
    exact Steps.refl _
  exact ⟨_, _, hst, hrun, hended, _, _, rfl, q (own_end F hB).1 (own_end F hB).2, F⟩
end OwnSync

def TB (Z : State) (h : Heap) (a : Addr) (cn : Int64) (hv : Value) : Prop := Exa Z h a "com/example/manyhands/manyhands/crowd/Totals" ∧ (∃ z, Fld Z h a "com/example/manyhands/manyhands/crowd/Totals" "tasks" "J" (.long z)) ∧ (∃ z, Fld Z h a "com/example/manyhands/manyhands/crowd/Totals" "assignments" "J" (.long z)) ∧ (∃ z, Fld Z h a "com/example/manyhands/manyhands/crowd/Totals" "cents" "J" (.long z)) ∧ Fld Z h a "com/example/manyhands/manyhands/crowd/Totals" "counted" "J" (.long cn) ∧ Fld Z h a "com/example/manyhands/manyhands/crowd/Totals" "held" "Lcom/example/manyhands/manyhands/crowd/Totals$Held;" hv
def HB (Z : State) (h : Heap) (b tt : Addr) (an : Int64) : Prop := Exa Z h b "com/example/manyhands/manyhands/crowd/Totals$Held" ∧ Fld Z h b "com/example/manyhands/manyhands/crowd/Totals$Held" "this$0" "Lcom/example/manyhands/manyhands/crowd/Totals;" (.ref tt) ∧ Fld Z h b "com/example/manyhands/manyhands/crowd/Totals$Held" "answers" "J" (.long an) ∧ (∃ z, Fld Z h b "com/example/manyhands/manyhands/crowd/Totals$Held" "cost" "J" (.long z))
def own_c0 (i : Int32) (c : Int64) : Int64 := if i = 0 then c else c + (1 : Int64)
def own_c1 (i : Int64) (c : Int64) : Int64 := if i = 0 then c else c + (1 : Int64)
theorem own_n1 (c : Int64) : c + 1 ≠ c := by
  intro h
  have e : (c + 1) - c = c - c := by rw [h]
  rw [Int64.sub_self, Int64.add_comm, Int64.add_sub_cancel] at e
  exact absurd e (by decide)
theorem own_n2 (c : Int64) : c + 1 + 1 ≠ c := by
  intro h
  have e : (c + (1 + 1)) - c = c - c := by rw [← Int64.add_assoc, h]
  rw [Int64.sub_self, Int64.add_comm, Int64.add_sub_cancel] at e
  exact absurd e (by decide)
theorem own_n3 (c : Int64) : c + 1 + 1 + 1 ≠ c := by
  intro h
  have e : (c + (1 + (1 + 1))) - c = c - c := by rw [← Int64.add_assoc, ← Int64.add_assoc, h]
  rw [Int64.sub_self, Int64.add_comm, Int64.add_sub_cancel] at e
  exact absurd e (by decide)
theorem own_tz {a : Int32} : a.toInt64 = 0 ↔ a = 0 := by
  constructor
  · intro h
    have e := congrArg Int64.toInt h
    rw [Int32.toInt_toInt64] at e
    exact Int32.toInt_inj.mp (e.trans (by decide))
  · rintro rfl; decide
theorem own_ne0 {r q : Int64} {p : Int32} (c : Int64) (h : p ≠ 0 ∨ q ≠ 0 ∨ r ≠ 0) : own_c1 q (own_c1 r (own_c0 p c)) ≠ c := by
  unfold own_c1 own_c0
  by_cases h1 : p = 0 <;> by_cases h2 : q = 0 <;> by_cases h3 : r = 0 <;> simp only [h1, h2, h3, if_true, if_false] <;> first | exact own_n1 c | exact own_n2 c | exact own_n3 c | exact absurd h (by simp [h1, h2, h3])
theorem own_eq0 {r q : Int64} {p : Int32} (c : Int64) (h1 : p = 0) (h2 : q = 0) (h3 : r = 0) : own_c1 q (own_c1 r (own_c0 p c)) = c := by
  simp [own_c1, own_c0, h1, h2, h3]
theorem own_eq2 {q : Int64} {p : Int32} (c : Int64) (h1 : p = 0) (h2 : q = 0) : own_c1 q (own_c0 p c) = c := by
  simp [own_c1, own_c0, h1, h2]
theorem own_ne2 {q : Int64} {p : Int32} (c : Int64) (h : p ≠ 0 ∨ q ≠ 0) : own_c1 q (own_c0 p c) ≠ c := by
  unfold own_c1 own_c0
  by_cases h1 : p = 0 <;> by_cases h2 : q = 0 <;> simp only [h1, h2, if_true, if_false] <;> first | exact own_n1 c | exact own_n2 c | exact absurd h (by simp [h1, h2])
theorem own_za {a : Int32} : (0 : Int64) + a.toInt64 = 0 ↔ a = 0 := by rw [Int64.zero_add]; exact own_tz
theorem d1_0 : decode prog_54_method_1_code 0 = .ok (.aload_n 0, 1) := by decide +kernel
theorem d1_1 : decode prog_54_method_1_code 1 = .ok (.invokespecial 1, 3) := by decide +kernel
theorem d1_4 : decode prog_54_method_1_code 4 = .ok (.return_, 1) := by decide +kernel
theorem own_pn0 : plainName "com/example/manyhands/manyhands/crowd/Totals" = true := by first | (simp [plainName, overriddenIn]; done) | decide +kernel
def Q_rm1 (Z : State) (a : Addr) (h0 : Heap) (n0 : Nat) (v : Option Value) (h : Heap) (L : List Loc) : Prop := v = none ∧ Fr n0 L ∧ h = h0
theorem ef_rm1 (m : MethodId) (a : Addr) : entryFrame m #[(.ref a)] 1 = mkF m 0 #[.val (.ref a)] [] := by first | (simp [entryFrame, mkF, argsToLocals, Value.category]; done) | rfl
set_option maxRecDepth 65536 in
set_option maxHeartbeats 40000000 in
theorem rm1 (l : Launch) (Z : State) (a0 : Array Value) (hw : ∀ d ∈ tables_1, d.before a0 Z = true) (ws : List Jvm.Cond) (a : Addr) (h0 : Heap) (n0 : Nat) (Z0 : n0 ≤ h0.size) :
    MetFree l (⟨"com/example/manyhands/manyhands/crowd/Totals", "<init>", "()V"⟩ : MethodName) (head1 (Jvm.Cond.code (⟨"com/example/manyhands/manyhands/crowd/Totals", "<init>", "()V"⟩ : MethodName) prog_54_method_1_code 1 none :: ws) ({ frames := 1, cells := 0, slots := 0, locals := 12 } : Room)) (fun ag_ U_ => ag_ = #[(.ref a)] ∧ Z.Warmed39 U_.vm ∧ U_.heap = h0) (fun _ _ _ _ _ => True) (fun _ U_ o_ V_ => ∃ v_ L_, o_ = .returned v_ ∧ (Q_rm1 Z a h0 n0) v_ V_.heap L_ ∧ FrameEnd U_ o_ V_ L_ ({ frames := 1, cells := 0, slots := 0, locals := 12 } : Room).cells ({ frames := 1, cells := 0, slots := 0, locals := 12 } : Room).slots) := by
  refine MetFree.of_bodySF (plainFor_of_name own_pn0) hisR ?_
  intro p e s m args below meth c s₁ Bd hml0 hP hK
  obtain ⟨rfl, hZ, hh⟩ := hP
  have hx := Bd.exec
  have hby := Bd.bytes
  have hml : c.maxLocals = 1 := hml0
  have hown : s.vm.findClass "com/example/manyhands/manyhands/crowd/Totals" = some m.cls := findClass_of_methodNamed Bd.named
  have hnm := (name_of_methodNamed Bd.named Bd.method).1
  have X0 : Stand p l e ({ frames := 1, cells := 0, slots := 0, locals := 12 } : Room) s m #[(.ref a)] below meth c s₁ [] 0 0 := Stand.of_body Bd
  have e0 : s₁.heap = h0 := by rw [← hh, Bd.state]; rfl
  have N0 := Fr.nil n0
  refine Go.st (G := fun s₂ o_ => ∃ v_ L_, o_ = .returned v_ ∧ (Q_rm1 Z a h0 n0) v_ s₂.heap L_ ∧ FrameEnd s o_ s₂ L_ ({ frames := 1, cells := 0, slots := 0, locals := 12 } : Room).cells ({ frames := 1, cells := 0, slots := 0, locals := 12 } : Room).slots) (fun t kt => castTop (ef_rm1 m a) kt) ?_
  show Go p e below _ (s₁.setTop (mkF m 0 #[.val (.ref a)] []))
  refine Go.st (fun _ kt => XS.aloadN X0.here hx rfl (hb hby d1_0) rfl rfl kt) ?_
  show Go p e below _ (s₁.setTop (mkF m 1 #[.val (.ref a)] [(.ref a)]))
  obtain ⟨T1, X1, e1, st1⟩ := initO X0 hx hZ hown (hw _ (List.mem_of_getElem? (i := 6) rfl)) (hw _ (List.mem_of_getElem? (i := 7) rfl)) (hw _ (List.mem_of_getElem? (i := 8) rfl)) e0 (g := (mkF m 1 #[.val (.ref a)] [(.ref a)])) rfl (by rw [hml]; rfl) rfl (hb hby d1_1) (by decide) (W := 0) (by show 2 * 0 + _ ≤ _; exact Nat.le_of_eq rfl) (by decide)
  refine Go.st st1 ?_
  show Go p e below _ (T1.setTop (mkF m 4 #[.val (.ref a)] []))
  refine Go.retV X1 hx Bd.returns (BodyLoose.notSynchronized Bd) (hb hby d1_4) (Q := (Q_rm1 Z a h0 n0)) (by decide) (by decide) ?_
  show (Q_rm1 Z a h0 n0) _ T1.heap _
  rw [e1]
  exact ⟨rfl, N0, rfl⟩
theorem d5_0 : decode prog_54_method_3_code 0 = .ok (.aload_n 0, 1) := by decide +kernel
theorem d5_1 : decode prog_54_method_3_code 1 = .ok (.invokespecial 1, 3) := by decide +kernel
theorem d5_4 : decode prog_54_method_3_code 4 = .ok (.aload_n 0, 1) := by decide +kernel
theorem d5_5 : decode prog_54_method_3_code 5 = .ok (.lload_n 1, 1) := by decide +kernel
theorem d5_6 : decode prog_54_method_3_code 6 = .ok (.putfield 12, 3) := by decide +kernel
theorem d5_9 : decode prog_54_method_3_code 9 = .ok (.aload_n 0, 1) := by decide +kernel
theorem d5_10 : decode prog_54_method_3_code 10 = .ok (.lload_n 3, 1) := by decide +kernel
theorem d5_11 : decode prog_54_method_3_code 11 = .ok (.putfield 16, 3) := by decide +kernel
theorem d5_14 : decode prog_54_method_3_code 14 = .ok (.aload_n 0, 1) := by decide +kernel
theorem d5_15 : decode prog_54_method_3_code 15 = .ok (.lload 5, 2) := by decide +kernel
theorem d5_17 : decode prog_54_method_3_code 17 = .ok (.putfield 19, 3) := by decide +kernel
theorem d5_20 : decode prog_54_method_3_code 20 = .ok (.aload_n 0, 1) := by decide +kernel
theorem d5_21 : decode prog_54_method_3_code 21 = .ok (.lload 7, 2) := by decide +kernel
theorem d5_23 : decode prog_54_method_3_code 23 = .ok (.putfield 22, 3) := by decide +kernel
theorem d5_26 : decode prog_54_method_3_code 26 = .ok (.return_, 1) := by decide +kernel
def Q_rm5 (Z : State) (a : Addr) (x1 : Int64) (x2 : Int64) (x3 : Int64) (x4 : Int64) (h0 : Heap) (n0 : Nat) (v : Option Value) (h : Heap) (L : List Loc) : Prop := v = none ∧ Fr n0 L ∧ Keep h0 h [a] ∧ Bs h0.size [a] L ∧ Fld Z h a "com/example/manyhands/manyhands/crowd/Totals" "counted" "J" (.long x4)
theorem ef_rm5 (m : MethodId) (a : Addr) (x1 : Int64) (x2 : Int64) (x3 : Int64) (x4 : Int64) : entryFrame m #[(.ref a), (.long x1), (.long x2), (.long x3), (.long x4)] 9 = mkF m 0 #[.val (.ref a), .val (.long x1), .second, .val (.long x2), .second, .val (.long x3), .second, .val (.long x4), .second] [] := by first | (simp [entryFrame, mkF, argsToLocals, Value.category]; done) | rfl
set_option maxRecDepth 65536 in
set_option maxHeartbeats 40000000 in
theorem rm5 (l : Launch) (Z : State) (a0 : Array Value) (hw : ∀ d ∈ tables_1, d.before a0 Z = true) (ws : List Jvm.Cond) (a : Addr) (x1 : Int64) (x2 : Int64) (x3 : Int64) (x4 : Int64) (h0 : Heap) (n0 : Nat) (Z0 : n0 ≤ h0.size) (E_a : Exa Z h0 a "com/example/manyhands/manyhands/crowd/Totals") (F_tasks : Fld Z h0 a "com/example/manyhands/manyhands/crowd/Totals" "tasks" "J" (.long (0 : Int64))) (F_assignments : Fld Z h0 a "com/example/manyhands/manyhands/crowd/Totals" "assignments" "J" (.long (0 : Int64))) (F_cents : Fld Z h0 a "com/example/manyhands/manyhands/crowd/Totals" "cents" "J" (.long (0 : Int64))) (F_counted : Fld Z h0 a "com/example/manyhands/manyhands/crowd/Totals" "counted" "J" (.long (0 : Int64))) (gn_a : n0 ≤ a) :
    MetFree l (⟨"com/example/manyhands/manyhands/crowd/Totals", "<init>", "(JJJJ)V"⟩ : MethodName) (head1 (Jvm.Cond.code (⟨"com/example/manyhands/manyhands/crowd/Totals", "<init>", "(JJJJ)V"⟩ : MethodName) prog_54_method_3_code 9 none :: ws) ({ frames := 1, cells := 0, slots := 0, locals := 12 } : Room)) (fun ag_ U_ => ag_ = #[(.ref a), (.long x1), (.long x2), (.long x3), (.long x4)] ∧ Z.Warmed39 U_.vm ∧ U_.heap = h0) (fun _ _ _ _ _ => True) (fun _ U_ o_ V_ => ∃ v_ L_, o_ = .returned v_ ∧ (Q_rm5 Z a x1 x2 x3 x4 h0 n0) v_ V_.heap L_ ∧ FrameEnd U_ o_ V_ L_ ({ frames := 1, cells := 0, slots := 0, locals := 12 } : Room).cells ({ frames := 1, cells := 0, slots := 0, locals := 12 } : Room).slots) := by
  refine MetFree.of_bodySF (plainFor_of_name own_pn0) hisR ?_
  intro p e s m args below meth c s₁ Bd hml0 hP hK
  obtain ⟨rfl, hZ, hh⟩ := hP
  have hx := Bd.exec
  have hby := Bd.bytes
  have hml : c.maxLocals = 9 := hml0
  have hown : s.vm.findClass "com/example/manyhands/manyhands/crowd/Totals" = some m.cls := findClass_of_methodNamed Bd.named
  have hnm := (name_of_methodNamed Bd.named Bd.method).1
  have X0 : Stand p l e ({ frames := 1, cells := 0, slots := 0, locals := 12 } : Room) s m #[(.ref a), (.long x1), (.long x2), (.long x3), (.long x4)] below meth c s₁ [] 0 0 := Stand.of_body Bd
  have e0 : s₁.heap = h0 := by rw [← hh, Bd.state]; rfl
  have N0 := Fr.nil n0
  refine Go.st (G := fun s₂ o_ => ∃ v_ L_, o_ = .returned v_ ∧ (Q_rm5 Z a x1 x2 x3 x4 h0 n0) v_ s₂.heap L_ ∧ FrameEnd s o_ s₂ L_ ({ frames := 1, cells := 0, slots := 0, locals := 12 } : Room).cells ({ frames := 1, cells := 0, slots := 0, locals := 12 } : Room).slots) (fun t kt => castTop (ef_rm5 m a x1 x2 x3 x4) kt) ?_
  show Go p e below _ (s₁.setTop (mkF m 0 #[.val (.ref a), .val (.long x1), .second, .val (.long x2), .second, .val (.long x3), .second, .val (.long x4), .second] []))
  refine Go.st (fun _ kt => XS.aloadN X0.here hx rfl (hb hby d5_0) rfl rfl kt) ?_
  show Go p e below _ (s₁.setTop (mkF m 1 #[.val (.ref a), .val (.long x1), .second, .val (.long x2), .second, .val (.long x3), .second, .val (.long x4), .second] [(.ref a)]))
  obtain ⟨T1, X1, e1, st1⟩ := initO X0 hx hZ hown (hw _ (List.mem_of_getElem? (i := 6) rfl)) (hw _ (List.mem_of_getElem? (i := 7) rfl)) (hw _ (List.mem_of_getElem? (i := 8) rfl)) e0 (g := (mkF m 1 #[.val (.ref a), .val (.long x1), .second, .val (.long x2), .second, .val (.long x3), .second, .val (.long x4), .second] [(.ref a)])) rfl (by rw [hml]; rfl) rfl (hb hby d5_1) (by decide) (W := 0) (by show 2 * 0 + _ ≤ _; exact Nat.le_of_eq rfl) (by decide)
  refine Go.st st1 ?_
  show Go p e below _ (T1.setTop (mkF m 4 #[.val (.ref a), .val (.long x1), .second, .val (.long x2), .second, .val (.long x3), .second, .val (.long x4), .second] []))
  refine Go.st (fun _ kt => XS.aloadN X1.here hx rfl (hb hby d5_4) rfl rfl kt) ?_
  show Go p e below _ (T1.setTop (mkF m 5 #[.val (.ref a), .val (.long x1), .second, .val (.long x2), .second, .val (.long x3), .second, .val (.long x4), .second] [(.ref a)]))
  refine Go.st (fun _ kt => XS.lloadN X1.here hx rfl (hb hby d5_5) rfl kt) ?_
  show Go p e below _ (T1.setTop (mkF m 6 #[.val (.ref a), .val (.long x1), .second, .val (.long x2), .second, .val (.long x3), .second, .val (.long x4), .second] [(.long x1), (.ref a)]))
  obtain ⟨T2, h2, X2, e2, W2, st2⟩ := putF X1 hx hZ hown (host := "") (Or.inl (hw _ (List.mem_of_getElem? (i := 20) rfl))) Via.refl e1 F_tasks E_a (Or.inl (hw _ (List.mem_of_getElem? (i := 21) rfl))) (hw _ (List.mem_of_getElem? (i := 1) rfl)) (ty := .long) (by decide) rfl rfl (g := (mkF m 6 #[.val (.ref a), .val (.long x1), .second, .val (.long x2), .second, .val (.long x3), .second, .val (.long x4), .second] [(.long x1), (.ref a)])) rfl rfl (hb hby d5_6)
  refine Go.st st2 ?_
  have Fw2 := F_tasks.same W2
  have Zs2 : n0 ≤ h2.size := Nat.le_trans Z0 (Nat.le_of_eq W2.size.symm)
  have N2 := Fr.snoc X2 N0 gn_a
  have K2 : Keep h0 h2 [a] := (Keep.refl h0 [a]).wr W2 (Or.inl (List.mem_of_getElem? (i := 0) rfl))
  have B2 : Bs h0.size [a] _ := Bs.snoc X2 (Bs.nil h0.size [a]) (Or.inl (List.mem_of_getElem? (i := 0) rfl))
  have Mk2 := MK.wr (MK.refl h0) W2
  show Go p e below _ (T2.setTop (mkF m 9 #[.val (.ref a), .val (.long x1), .second, .val (.long x2), .second, .val (.long x3), .second, .val (.long x4), .second] []))
  refine Go.st (fun _ kt => XS.aloadN X2.here hx rfl (hb hby d5_9) rfl rfl kt) ?_
  show Go p e below _ (T2.setTop (mkF m 10 #[.val (.ref a), .val (.long x1), .second, .val (.long x2), .second, .val (.long x3), .second, .val (.long x4), .second] [(.ref a)]))
  refine Go.st (fun _ kt => XS.lloadN X2.here hx rfl (hb hby d5_10) rfl kt) ?_
  show Go p e below _ (T2.setTop (mkF m 11 #[.val (.ref a), .val (.long x1), .second, .val (.long x2), .second, .val (.long x3), .second, .val (.long x4), .second] [(.long x2), (.ref a)]))
  have f3 := (E_a.wr W2)
  have f4 := (F_assignments.other W2 (Or.inr (slot_ne (Or.inl (hw _ (List.mem_of_getElem? (i := 23) rfl))) (Or.inl (hw _ (List.mem_of_getElem? (i := 21) rfl))) (by decide) (t := .long) (t' := .long) (by decide) (by decide))))
  obtain ⟨T5, h5, X5, e5, W5, st5⟩ := putF X2 hx hZ hown (host := "") (Or.inl (hw _ (List.mem_of_getElem? (i := 22) rfl))) Via.refl e2 f4 f3 (Or.inl (hw _ (List.mem_of_getElem? (i := 23) rfl))) (hw _ (List.mem_of_getElem? (i := 1) rfl)) (ty := .long) (by decide) rfl rfl (g := (mkF m 11 #[.val (.ref a), .val (.long x1), .second, .val (.long x2), .second, .val (.long x3), .second, .val (.long x4), .second] [(.long x2), (.ref a)])) rfl rfl (hb hby d5_11)
  refine Go.st st5 ?_
  have Fw5 := f4.same W5
  have Zs5 : n0 ≤ h5.size := Nat.le_trans Zs2 (Nat.le_of_eq W5.size.symm)
  have N5 := Fr.snoc X5 N2 gn_a
  have K5 : Keep h0 h5 [a] := K2.wr W5 (Or.inl (List.mem_of_getElem? (i := 0) rfl))
  have B5 : Bs h0.size [a] _ := Bs.snoc X5 B2 (Or.inl (List.mem_of_getElem? (i := 0) rfl))
  have Mk5 := MK.wr Mk2 W5
  show Go p e below _ (T5.setTop (mkF m 14 #[.val (.ref a), .val (.long x1), .second, .val (.long x2), .second, .val (.long x3), .second, .val (.long x4), .second] []))
  refine Go.st (fun _ kt => XS.aloadN X5.here hx rfl (hb hby d5_14) rfl rfl kt) ?_
  show Go p e below _ (T5.setTop (mkF m 15 #[.val (.ref a), .val (.long x1), .second, .val (.long x2), .second, .val (.long x3), .second, .val (.long x4), .second] [(.ref a)]))
  refine Go.st (fun _ kt => XS.lload X5.here hx rfl (hb hby d5_15) rfl kt) ?_
  show Go p e below _ (T5.setTop (mkF m 17 #[.val (.ref a), .val (.long x1), .second, .val (.long x2), .second, .val (.long x3), .second, .val (.long x4), .second] [(.long x3), (.ref a)]))
  have f6 := (f3.wr W5)
  have f7 := ((F_cents.other W2 (Or.inr (slot_ne (Or.inl (hw _ (List.mem_of_getElem? (i := 25) rfl))) (Or.inl (hw _ (List.mem_of_getElem? (i := 21) rfl))) (by decide) (t := .long) (t' := .long) (by decide) (by decide)))).other W5 (Or.inr (slot_ne (Or.inl (hw _ (List.mem_of_getElem? (i := 25) rfl))) (Or.inl (hw _ (List.mem_of_getElem? (i := 23) rfl))) (by decide) (t := .long) (t' := .long) (by decide) (by decide))))
  obtain ⟨T8, h8, X8, e8, W8, st8⟩ := putF X5 hx hZ hown (host := "") (Or.inl (hw _ (List.mem_of_getElem? (i := 24) rfl))) Via.refl e5 f7 f6 (Or.inl (hw _ (List.mem_of_getElem? (i := 25) rfl))) (hw _ (List.mem_of_getElem? (i := 1) rfl)) (ty := .long) (by decide) rfl rfl (g := (mkF m 17 #[.val (.ref a), .val (.long x1), .second, .val (.long x2), .second, .val (.long x3), .second, .val (.long x4), .second] [(.long x3), (.ref a)])) rfl rfl (hb hby d5_17)
  refine Go.st st8 ?_
  have Fw8 := f7.same W8
  have Zs8 : n0 ≤ h8.size := Nat.le_trans Zs5 (Nat.le_of_eq W8.size.symm)
  have N8 := Fr.snoc X8 N5 gn_a
  have K8 : Keep h0 h8 [a] := K5.wr W8 (Or.inl (List.mem_of_getElem? (i := 0) rfl))
  have B8 : Bs h0.size [a] _ := Bs.snoc X8 B5 (Or.inl (List.mem_of_getElem? (i := 0) rfl))
  have Mk8 := MK.wr Mk5 W8
  show Go p e below _ (T8.setTop (mkF m 20 #[.val (.ref a), .val (.long x1), .second, .val (.long x2), .second, .val (.long x3), .second, .val (.long x4), .second] []))
  refine Go.st (fun _ kt => XS.aloadN X8.here hx rfl (hb hby d5_20) rfl rfl kt) ?_
  show Go p e below _ (T8.setTop (mkF m 21 #[.val (.ref a), .val (.long x1), .second, .val (.long x2), .second, .val (.long x3), .second, .val (.long x4), .second] [(.ref a)]))
  refine Go.st (fun _ kt => XS.lload X8.here hx rfl (hb hby d5_21) rfl kt) ?_
  show Go p e below _ (T8.setTop (mkF m 23 #[.val (.ref a), .val (.long x1), .second, .val (.long x2), .second, .val (.long x3), .second, .val (.long x4), .second] [(.long x4), (.ref a)]))
  have f9 := (f6.wr W8)
  have f10 := (((F_counted.other W2 (Or.inr (slot_ne (Or.inl (hw _ (List.mem_of_getElem? (i := 27) rfl))) (Or.inl (hw _ (List.mem_of_getElem? (i := 21) rfl))) (by decide) (t := .long) (t' := .long) (by decide) (by decide)))).other W5 (Or.inr (slot_ne (Or.inl (hw _ (List.mem_of_getElem? (i := 27) rfl))) (Or.inl (hw _ (List.mem_of_getElem? (i := 23) rfl))) (by decide) (t := .long) (t' := .long) (by decide) (by decide)))).other W8 (Or.inr (slot_ne (Or.inl (hw _ (List.mem_of_getElem? (i := 27) rfl))) (Or.inl (hw _ (List.mem_of_getElem? (i := 25) rfl))) (by decide) (t := .long) (t' := .long) (by decide) (by decide))))
  obtain ⟨T11, h11, X11, e11, W11, st11⟩ := putF X8 hx hZ hown (host := "") (Or.inl (hw _ (List.mem_of_getElem? (i := 26) rfl))) Via.refl e8 f10 f9 (Or.inl (hw _ (List.mem_of_getElem? (i := 27) rfl))) (hw _ (List.mem_of_getElem? (i := 1) rfl)) (ty := .long) (by decide) rfl rfl (g := (mkF m 23 #[.val (.ref a), .val (.long x1), .second, .val (.long x2), .second, .val (.long x3), .second, .val (.long x4), .second] [(.long x4), (.ref a)])) rfl rfl (hb hby d5_23)
  refine Go.st st11 ?_
  have Fw11 := f10.same W11
  have Zs11 : n0 ≤ h11.size := Nat.le_trans Zs8 (Nat.le_of_eq W11.size.symm)
  have N11 := Fr.snoc X11 N8 gn_a
  have K11 : Keep h0 h11 [a] := K8.wr W11 (Or.inl (List.mem_of_getElem? (i := 0) rfl))
  have B11 : Bs h0.size [a] _ := Bs.snoc X11 B8 (Or.inl (List.mem_of_getElem? (i := 0) rfl))
  have Mk11 := MK.wr Mk8 W11
  show Go p e below _ (T11.setTop (mkF m 26 #[.val (.ref a), .val (.long x1), .second, .val (.long x2), .second, .val (.long x3), .second, .val (.long x4), .second] []))
  refine Go.retV X11 hx Bd.returns (BodyLoose.notSynchronized Bd) (hb hby d5_26) (Q := (Q_rm5 Z a x1 x2 x3 x4 h0 n0)) (by decide) (by decide) ?_
  show (Q_rm5 Z a x1 x2 x3 x4 h0 n0) _ T11.heap _
  rw [e11]
  exact ⟨rfl, N11, K11, B11, Fw11⟩
theorem d11_0 : decode prog_55_method_1_code 0 = .ok (.aload_n 0, 1) := by decide +kernel
theorem d11_1 : decode prog_55_method_1_code 1 = .ok (.aload_n 1, 1) := by decide +kernel
theorem d11_2 : decode prog_55_method_1_code 2 = .ok (.putfield 1, 3) := by decide +kernel
theorem d11_5 : decode prog_55_method_1_code 5 = .ok (.aload_n 0, 1) := by decide +kernel
theorem d11_6 : decode prog_55_method_1_code 6 = .ok (.invokespecial 7, 3) := by decide +kernel
theorem d11_9 : decode prog_55_method_1_code 9 = .ok (.return_, 1) := by decide +kernel
theorem own_pn1 : plainName "com/example/manyhands/manyhands/crowd/Totals$Held" = true := by first | (simp [plainName, overriddenIn]; done) | decide +kernel
def Q_rm11 (Z : State) (a : Addr) (tt : Addr) (h0 : Heap) (n0 : Nat) (v : Option Value) (h : Heap) (L : List Loc) : Prop := v = none ∧ Fr n0 L ∧ Keep h0 h [a] ∧ Bs h0.size [a] L ∧ HB Z h a tt (0 : Int64)
theorem ef_rm11 (m : MethodId) (a : Addr) (tt : Addr) : entryFrame m #[(.ref a), (.ref tt)] 2 = mkF m 0 #[.val (.ref a), .val (.ref tt)] [] := by first | (simp [entryFrame, mkF, argsToLocals, Value.category]; done) | rfl
set_option maxRecDepth 65536 in
set_option maxHeartbeats 40000000 in
theorem rm11 (l : Launch) (Z : State) (a0 : Array Value) (hw : ∀ d ∈ tables_1, d.before a0 Z = true) (ws : List Jvm.Cond) (a : Addr) (tt : Addr) (h0 : Heap) (n0 : Nat) (Z0 : n0 ≤ h0.size) (E_a : Exa Z h0 a "com/example/manyhands/manyhands/crowd/Totals$Held") (F_th : Fld Z h0 a "com/example/manyhands/manyhands/crowd/Totals$Held" "this$0" "Lcom/example/manyhands/manyhands/crowd/Totals;" .null) (F_an : Fld Z h0 a "com/example/manyhands/manyhands/crowd/Totals$Held" "answers" "J" (.long (0 : Int64))) (F_co : Fld Z h0 a "com/example/manyhands/manyhands/crowd/Totals$Held" "cost" "J" (.long (0 : Int64))) (gn_a : n0 ≤ a) :
    MetFree l (⟨"com/example/manyhands/manyhands/crowd/Totals$Held", "<init>", "(Lcom/example/manyhands/manyhands/crowd/Totals;)V"⟩ : MethodName) (head1 (Jvm.Cond.code (⟨"com/example/manyhands/manyhands/crowd/Totals$Held", "<init>", "(Lcom/example/manyhands/manyhands/crowd/Totals;)V"⟩ : MethodName) prog_55_method_1_code 2 none :: ws) ({ frames := 1, cells := 0, slots := 0, locals := 12 } : Room)) (fun ag_ U_ => ag_ = #[(.ref a), (.ref tt)] ∧ Z.Warmed39 U_.vm ∧ U_.heap = h0) (fun _ _ _ _ _ => True) (fun _ U_ o_ V_ => ∃ v_ L_, o_ = .returned v_ ∧ (Q_rm11 Z a tt h0 n0) v_ V_.heap L_ ∧ FrameEnd U_ o_ V_ L_ ({ frames := 1, cells := 0, slots := 0, locals := 12 } : Room).cells ({ frames := 1, cells := 0, slots := 0, locals := 12 } : Room).slots) := by
  refine MetFree.of_bodySF (plainFor_of_name own_pn1) hisR ?_
  intro p e s m args below meth c s₁ Bd hml0 hP hK
  obtain ⟨rfl, hZ, hh⟩ := hP
  have hx := Bd.exec
  have hby := Bd.bytes
  have hml : c.maxLocals = 2 := hml0
  have hown : s.vm.findClass "com/example/manyhands/manyhands/crowd/Totals$Held" = some m.cls := findClass_of_methodNamed Bd.named
  have hnm := (name_of_methodNamed Bd.named Bd.method).1
  have X0 : Stand p l e ({ frames := 1, cells := 0, slots := 0, locals := 12 } : Room) s m #[(.ref a), (.ref tt)] below meth c s₁ [] 0 0 := Stand.of_body Bd
  have e0 : s₁.heap = h0 := by rw [← hh, Bd.state]; rfl
  have N0 := Fr.nil n0
  refine Go.st (G := fun s₂ o_ => ∃ v_ L_, o_ = .returned v_ ∧ (Q_rm11 Z a tt h0 n0) v_ s₂.heap L_ ∧ FrameEnd s o_ s₂ L_ ({ frames := 1, cells := 0, slots := 0, locals := 12 } : Room).cells ({ frames := 1, cells := 0, slots := 0, locals := 12 } : Room).slots) (fun t kt => castTop (ef_rm11 m a tt) kt) ?_
  show Go p e below _ (s₁.setTop (mkF m 0 #[.val (.ref a), .val (.ref tt)] []))
  refine Go.st (fun _ kt => XS.aloadN X0.here hx rfl (hb hby d11_0) rfl rfl kt) ?_
  show Go p e below _ (s₁.setTop (mkF m 1 #[.val (.ref a), .val (.ref tt)] [(.ref a)]))
  refine Go.st (fun _ kt => XS.aloadN X0.here hx rfl (hb hby d11_1) rfl rfl kt) ?_
  show Go p e below _ (s₁.setTop (mkF m 2 #[.val (.ref a), .val (.ref tt)] [(.ref tt), (.ref a)]))
  obtain ⟨T1, h1, X1, e1, W1, st1⟩ := putF X0 hx hZ hown (host := "") (Or.inl (hw _ (List.mem_of_getElem? (i := 63) rfl))) Via.refl e0 F_th E_a (Or.inr ⟨(hw _ (List.mem_of_getElem? (i := 64) rfl)), rfl, hnm⟩) (hw _ (List.mem_of_getElem? (i := 58) rfl)) (ty := (.object "com/example/manyhands/manyhands/crowd/Totals")) (by decide) rfl rfl (g := (mkF m 2 #[.val (.ref a), .val (.ref tt)] [(.ref tt), (.ref a)])) rfl rfl (hb hby d11_2)
  refine Go.st st1 ?_
  have Fw1 := F_th.same W1
  have Zs1 : n0 ≤ h1.size := Nat.le_trans Z0 (Nat.le_of_eq W1.size.symm)
  have N1 := Fr.snoc X1 N0 gn_a
  have K1 : Keep h0 h1 [a] := (Keep.refl h0 [a]).wr W1 (Or.inl (List.mem_of_getElem? (i := 0) rfl))
  have B1 : Bs h0.size [a] _ := Bs.snoc X1 (Bs.nil h0.size [a]) (Or.inl (List.mem_of_getElem? (i := 0) rfl))
  have Mk1 := MK.wr (MK.refl h0) W1
  show Go p e below _ (T1.setTop (mkF m 5 #[.val (.ref a), .val (.ref tt)] []))
  refine Go.st (fun _ kt => XS.aloadN X1.here hx rfl (hb hby d11_5) rfl rfl kt) ?_
  show Go p e below _ (T1.setTop (mkF m 6 #[.val (.ref a), .val (.ref tt)] [(.ref a)]))
  obtain ⟨T2, X2, e2, st2⟩ := initO X1 hx hZ hown (hw _ (List.mem_of_getElem? (i := 65) rfl)) (hw _ (List.mem_of_getElem? (i := 7) rfl)) (hw _ (List.mem_of_getElem? (i := 8) rfl)) e1 (g := (mkF m 6 #[.val (.ref a), .val (.ref tt)] [(.ref a)])) rfl (by rw [hml]; rfl) rfl (hb hby d11_6) (by decide) (W := 0) (by show 2 * 0 + _ ≤ _; exact Nat.le_of_eq rfl) (by decide)
  refine Go.st st2 ?_
  show Go p e below _ (T2.setTop (mkF m 9 #[.val (.ref a), .val (.ref tt)] []))
  have f3 := (E_a.wr W1)
  have f4 := (F_an.other W1 (Or.inr (slot_ne (Or.inl (hw _ (List.mem_of_getElem? (i := 67) rfl))) (Or.inr (hw _ (List.mem_of_getElem? (i := 64) rfl))) (by decide) (t := .long) (t' := (.object "com/example/manyhands/manyhands/crowd/Totals")) (by decide) (by decide))))
  have f5 := (F_co.other W1 (Or.inr (slot_ne (Or.inl (hw _ (List.mem_of_getElem? (i := 69) rfl))) (Or.inr (hw _ (List.mem_of_getElem? (i := 64) rfl))) (by decide) (t := .long) (t' := (.object "com/example/manyhands/manyhands/crowd/Totals")) (by decide) (by decide))))
  refine Go.retV X2 hx Bd.returns (BodyLoose.notSynchronized Bd) (hb hby d11_9) (Q := (Q_rm11 Z a tt h0 n0)) (by decide) (by decide) ?_
  show (Q_rm11 Z a tt h0 n0) _ T2.heap _
  rw [e2]
  exact ⟨rfl, N1, K1, B1, ⟨f3, Fw1, f4, ⟨_, f5⟩⟩⟩
theorem d6_0 : decode prog_54_method_10_code 0 = .ok (.aload_n 0, 1) := by decide +kernel
theorem d6_1 : decode prog_54_method_10_code 1 = .ok (.getfield 22, 3) := by decide +kernel
theorem d6_4 : decode prog_54_method_10_code 4 = .ok (.aload_n 1, 1) := by decide +kernel
theorem d6_5 : decode prog_54_method_10_code 5 = .ok (.getfield 22, 3) := by decide +kernel
theorem d6_8 : decode prog_54_method_10_code 8 = .ok (.lcmp, 1) := by decide +kernel
theorem d6_9 : decode prog_54_method_10_code 9 = .ok (.ifCond .eq 7, 3) := by decide +kernel
theorem d6_16 : decode prog_54_method_10_code 16 = .ok (.iconst 0, 1) := by decide +kernel
theorem d6_17 : decode prog_54_method_10_code 17 = .ok (.ireturn, 1) := by decide +kernel
def Q_rm6e (Z : State) (a : Addr) (ot : Addr) (cn : Int64) (dn : Int64) (h0 : Heap) (n0 : Nat) (v : Option Value) (h : Heap) (L : List Loc) : Prop := v = some (.int 0) ∧ Fr n0 L ∧ h = h0
theorem ef_rm6e (m : MethodId) (a : Addr) (ot : Addr) : entryFrame m #[(.ref a), (.ref ot)] 2 = mkF m 0 #[.val (.ref a), .val (.ref ot)] [] := by first | (simp [entryFrame, mkF, argsToLocals, Value.category]; done) | rfl
set_option maxRecDepth 65536 in
set_option maxHeartbeats 40000000 in
theorem rm6e (l : Launch) (Z : State) (a0 : Array Value) (hw : ∀ d ∈ tables_1, d.before a0 Z = true) (ws : List Jvm.Cond) (a : Addr) (ot : Addr) (cn : Int64) (dn : Int64) (h0 : Heap) (n0 : Nat) (Z0 : n0 ≤ h0.size) (F_n : Fld Z h0 a "com/example/manyhands/manyhands/crowd/Totals" "counted" "J" (.long cn)) (F_o : Fld Z h0 ot "com/example/manyhands/manyhands/crowd/Totals" "counted" "J" (.long dn)) (hcd : cn = dn) :
    MetFree l (⟨"com/example/manyhands/manyhands/crowd/Totals", "countedSince", "(Lcom/example/manyhands/manyhands/crowd/Totals;)Z"⟩ : MethodName) (head1 (Jvm.Cond.code (⟨"com/example/manyhands/manyhands/crowd/Totals", "countedSince", "(Lcom/example/manyhands/manyhands/crowd/Totals;)Z"⟩ : MethodName) prog_54_method_10_code 2 (some .boolean) :: ws) ({ frames := 0, cells := 0, slots := 0, locals := 0 } : Room)) (fun ag_ U_ => ag_ = #[(.ref a), (.ref ot)] ∧ Z.Warmed39 U_.vm ∧ U_.heap = h0) (fun _ _ _ _ _ => True) (fun _ U_ o_ V_ => ∃ v_ L_, o_ = .returned v_ ∧ (Q_rm6e Z a ot cn dn h0 n0) v_ V_.heap L_ ∧ FrameEnd U_ o_ V_ L_ ({ frames := 0, cells := 0, slots := 0, locals := 0 } : Room).cells ({ frames := 0, cells := 0, slots := 0, locals := 0 } : Room).slots) := by
  refine MetFree.of_bodySF (plainFor_of_name own_pn0) hisR ?_
  intro p e s m args below meth c s₁ Bd hml0 hP hK
  obtain ⟨rfl, hZ, hh⟩ := hP
  have hx := Bd.exec
  have hby := Bd.bytes
  have hml : c.maxLocals = 2 := hml0
  have hown : s.vm.findClass "com/example/manyhands/manyhands/crowd/Totals" = some m.cls := findClass_of_methodNamed Bd.named
  have hnm := (name_of_methodNamed Bd.named Bd.method).1
  have X0 : Stand p l e ({ frames := 0, cells := 0, slots := 0, locals := 0 } : Room) s m #[(.ref a), (.ref ot)] below meth c s₁ [] 0 0 := Stand.of_body Bd
  have e0 : s₁.heap = h0 := by rw [← hh, Bd.state]; rfl
  have N0 := Fr.nil n0
  refine Go.st (G := fun s₂ o_ => ∃ v_ L_, o_ = .returned v_ ∧ (Q_rm6e Z a ot cn dn h0 n0) v_ s₂.heap L_ ∧ FrameEnd s o_ s₂ L_ ({ frames := 0, cells := 0, slots := 0, locals := 0 } : Room).cells ({ frames := 0, cells := 0, slots := 0, locals := 0 } : Room).slots) (fun t kt => castTop (ef_rm6e m a ot) kt) ?_
  show Go p e below _ (s₁.setTop (mkF m 0 #[.val (.ref a), .val (.ref ot)] []))
  refine Go.st (fun _ kt => XS.aloadN X0.here hx rfl (hb hby d6_0) rfl rfl kt) ?_
  show Go p e below _ (s₁.setTop (mkF m 1 #[.val (.ref a), .val (.ref ot)] [(.ref a)]))
  obtain ⟨T1, X1, e1, st1⟩ := getF X0 hx hZ hown (host := "") (Or.inl (hw _ (List.mem_of_getElem? (i := 26) rfl))) Via.refl e0 F_n (g := (mkF m 1 #[.val (.ref a), .val (.ref ot)] [(.ref a)])) rfl rfl (hb hby d6_1)
  refine Go.st st1 ?_
  show Go p e below _ (T1.setTop (mkF m 4 #[.val (.ref a), .val (.ref ot)] [(.long cn)]))
  refine Go.st (fun _ kt => XS.aloadN X1.here hx rfl (hb hby d6_4) rfl rfl kt) ?_
  show Go p e below _ (T1.setTop (mkF m 5 #[.val (.ref a), .val (.ref ot)] [(.ref ot), (.long cn)]))
  obtain ⟨T2, X2, e2, st2⟩ := getF X1 hx hZ hown (host := "") (Or.inl (hw _ (List.mem_of_getElem? (i := 26) rfl))) Via.refl e1 F_o (g := (mkF m 5 #[.val (.ref a), .val (.ref ot)] [(.ref ot), (.long cn)])) rfl rfl (hb hby d6_5)
  refine Go.st st2 ?_
  show Go p e below _ (T2.setTop (mkF m 8 #[.val (.ref a), .val (.ref ot)] [(.long dn), (.long cn)]))
  refine Go.st (fun _ kt => XS.lcmp X2.here hx rfl (hb hby d6_8) rfl kt) ?_
  show Go p e below _ (T2.setTop (mkF m 9 #[.val (.ref a), .val (.ref ot)] [(.int (lcmpW cn dn))]))
  refine Go.st (fun _ kt => XS.ifYes X2.here hx rfl (pc0 := 9) (pc' := 16) rfl (hb hby d6_9) rfl ((if0 _ _).trans (teq ((lw_eq _ _).mpr hcd)).1) (by decide) (by decide) kt) ?_
  show Go p e below _ (T2.setTop (mkF m 16 #[.val (.ref a), .val (.ref ot)] []))
  refine Go.st (fun _ kt => XS.iconst X2.here hx rfl (hb hby d6_16) kt) ?_
  show Go p e below _ (T2.setTop (mkF m 17 #[.val (.ref a), .val (.ref ot)] [(.int (0 : Int32))]))
  refine Go.retN X2 hx (t := .boolean) Bd.returns (by simp) (BodyLoose.notSynchronized Bd) (hb hby d6_17) (Q := (Q_rm6e Z a ot cn dn h0 n0)) (by decide) (by decide) ?_
  show (Q_rm6e Z a ot cn dn h0 n0) _ T2.heap _
  rw [e2]
  exact ⟨rfl, N0, rfl⟩
theorem d6_12 : decode prog_54_method_10_code 12 = .ok (.iconst 1, 1) := by decide +kernel
theorem d6_13 : decode prog_54_method_10_code 13 = .ok (.goto 4, 3) := by decide +kernel
def Q_rm6n (Z : State) (a : Addr) (ot : Addr) (cn : Int64) (dn : Int64) (h0 : Heap) (n0 : Nat) (v : Option Value) (h : Heap) (L : List Loc) : Prop := v = some (.int 1) ∧ Fr n0 L ∧ h = h0
theorem ef_rm6n (m : MethodId) (a : Addr) (ot : Addr) : entryFrame m #[(.ref a), (.ref ot)] 2 = mkF m 0 #[.val (.ref a), .val (.ref ot)] [] := by first | (simp [entryFrame, mkF, argsToLocals, Value.category]; done) | rfl
set_option maxRecDepth 65536 in
set_option maxHeartbeats 40000000 in
theorem rm6n (l : Launch) (Z : State) (a0 : Array Value) (hw : ∀ d ∈ tables_1, d.before a0 Z = true) (ws : List Jvm.Cond) (a : Addr) (ot : Addr) (cn : Int64) (dn : Int64) (h0 : Heap) (n0 : Nat) (Z0 : n0 ≤ h0.size) (F_n : Fld Z h0 a "com/example/manyhands/manyhands/crowd/Totals" "counted" "J" (.long cn)) (F_o : Fld Z h0 ot "com/example/manyhands/manyhands/crowd/Totals" "counted" "J" (.long dn)) (hcd : cn ≠ dn) :
    MetFree l (⟨"com/example/manyhands/manyhands/crowd/Totals", "countedSince", "(Lcom/example/manyhands/manyhands/crowd/Totals;)Z"⟩ : MethodName) (head1 (Jvm.Cond.code (⟨"com/example/manyhands/manyhands/crowd/Totals", "countedSince", "(Lcom/example/manyhands/manyhands/crowd/Totals;)Z"⟩ : MethodName) prog_54_method_10_code 2 (some .boolean) :: ws) ({ frames := 0, cells := 0, slots := 0, locals := 0 } : Room)) (fun ag_ U_ => ag_ = #[(.ref a), (.ref ot)] ∧ Z.Warmed39 U_.vm ∧ U_.heap = h0) (fun _ _ _ _ _ => True) (fun _ U_ o_ V_ => ∃ v_ L_, o_ = .returned v_ ∧ (Q_rm6n Z a ot cn dn h0 n0) v_ V_.heap L_ ∧ FrameEnd U_ o_ V_ L_ ({ frames := 0, cells := 0, slots := 0, locals := 0 } : Room).cells ({ frames := 0, cells := 0, slots := 0, locals := 0 } : Room).slots) := by
  refine MetFree.of_bodySF (plainFor_of_name own_pn0) hisR ?_
  intro p e s m args below meth c s₁ Bd hml0 hP hK
  obtain ⟨rfl, hZ, hh⟩ := hP
  have hx := Bd.exec
  have hby := Bd.bytes
  have hml : c.maxLocals = 2 := hml0
  have hown : s.vm.findClass "com/example/manyhands/manyhands/crowd/Totals" = some m.cls := findClass_of_methodNamed Bd.named
  have hnm := (name_of_methodNamed Bd.named Bd.method).1
  have X0 : Stand p l e ({ frames := 0, cells := 0, slots := 0, locals := 0 } : Room) s m #[(.ref a), (.ref ot)] below meth c s₁ [] 0 0 := Stand.of_body Bd
  have e0 : s₁.heap = h0 := by rw [← hh, Bd.state]; rfl
  have N0 := Fr.nil n0
  refine Go.st (G := fun s₂ o_ => ∃ v_ L_, o_ = .returned v_ ∧ (Q_rm6n Z a ot cn dn h0 n0) v_ s₂.heap L_ ∧ FrameEnd s o_ s₂ L_ ({ frames := 0, cells := 0, slots := 0, locals := 0 } : Room).cells ({ frames := 0, cells := 0, slots := 0, locals := 0 } : Room).slots) (fun t kt => castTop (ef_rm6n m a ot) kt) ?_
  show Go p e below _ (s₁.setTop (mkF m 0 #[.val (.ref a), .val (.ref ot)] []))
  refine Go.st (fun _ kt => XS.aloadN X0.here hx rfl (hb hby d6_0) rfl rfl kt) ?_
  show Go p e below _ (s₁.setTop (mkF m 1 #[.val (.ref a), .val (.ref ot)] [(.ref a)]))
  obtain ⟨T1, X1, e1, st1⟩ := getF X0 hx hZ hown (host := "") (Or.inl (hw _ (List.mem_of_getElem? (i := 26) rfl))) Via.refl e0 F_n (g := (mkF m 1 #[.val (.ref a), .val (.ref ot)] [(.ref a)])) rfl rfl (hb hby d6_1)
  refine Go.st st1 ?_
  show Go p e below _ (T1.setTop (mkF m 4 #[.val (.ref a), .val (.ref ot)] [(.long cn)]))
  refine Go.st (fun _ kt => XS.aloadN X1.here hx rfl (hb hby d6_4) rfl rfl kt) ?_
  show Go p e below _ (T1.setTop (mkF m 5 #[.val (.ref a), .val (.ref ot)] [(.ref ot), (.long cn)]))
  obtain ⟨T2, X2, e2, st2⟩ := getF X1 hx hZ hown (host := "") (Or.inl (hw _ (List.mem_of_getElem? (i := 26) rfl))) Via.refl e1 F_o (g := (mkF m 5 #[.val (.ref a), .val (.ref ot)] [(.ref ot), (.long cn)])) rfl rfl (hb hby d6_5)
  refine Go.st st2 ?_
  show Go p e below _ (T2.setTop (mkF m 8 #[.val (.ref a), .val (.ref ot)] [(.long dn), (.long cn)]))
  refine Go.st (fun _ kt => XS.lcmp X2.here hx rfl (hb hby d6_8) rfl kt) ?_
  show Go p e below _ (T2.setTop (mkF m 9 #[.val (.ref a), .val (.ref ot)] [(.int (lcmpW cn dn))]))
  refine Go.st (fun _ kt => XS.ifNo X2.here hx rfl (hb hby d6_9) rfl ((if0 _ _).trans (feq (fun q => hcd ((lw_eq _ _).mp q))).1) kt) ?_
  show Go p e below _ (T2.setTop (mkF m 12 #[.val (.ref a), .val (.ref ot)] []))
  refine Go.st (fun _ kt => XS.iconst X2.here hx rfl (hb hby d6_12) kt) ?_
  show Go p e below _ (T2.setTop (mkF m 13 #[.val (.ref a), .val (.ref ot)] [(.int (1 : Int32))]))
  refine Go.st (fun _ kt => XS.goto X2.here hx rfl (pc0 := 13) (pc' := 17) rfl (hb hby d6_13) (by decide) (by decide) kt) ?_
  show Go p e below _ (T2.setTop (mkF m 17 #[.val (.ref a), .val (.ref ot)] [(.int (1 : Int32))]))
  refine Go.retN X2 hx (t := .boolean) Bd.returns (by simp) (BodyLoose.notSynchronized Bd) (hb hby d6_17) (Q := (Q_rm6n Z a ot cn dn h0 n0)) (by decide) (by decide) ?_
  show (Q_rm6n Z a ot cn dn h0 n0) _ T2.heap _
  rw [e2]
  exact ⟨rfl, N0, rfl⟩
theorem d8_0 : decode prog_54_method_6_code 0 = .ok (.lload_n 1, 1) := by decide +kernel
theorem d8_1 : decode prog_54_method_6_code 1 = .ok (.lconst 0, 1) := by decide +kernel
theorem d8_2 : decode prog_54_method_6_code 2 = .ok (.lcmp, 1) := by decide +kernel
theorem d8_3 : decode prog_54_method_6_code 3 = .ok (.ifCond .ne 4, 3) := by decide +kernel
theorem d8_6 : decode prog_54_method_6_code 6 = .ok (.return_, 1) := by decide +kernel
theorem d8_7 : decode prog_54_method_6_code 7 = .ok (.aload_n 0, 1) := by decide +kernel
theorem d8_8 : decode prog_54_method_6_code 8 = .ok (.dup, 1) := by decide +kernel
theorem d8_9 : decode prog_54_method_6_code 9 = .ok (.getfield 16, 3) := by decide +kernel
theorem d8_12 : decode prog_54_method_6_code 12 = .ok (.lload_n 1, 1) := by decide +kernel
theorem d8_13 : decode prog_54_method_6_code 13 = .ok (.ladd, 1) := by decide +kernel
theorem d8_14 : decode prog_54_method_6_code 14 = .ok (.putfield 16, 3) := by decide +kernel
theorem d8_17 : decode prog_54_method_6_code 17 = .ok (.aload_n 0, 1) := by decide +kernel
theorem d8_18 : decode prog_54_method_6_code 18 = .ok (.dup, 1) := by decide +kernel
theorem d8_19 : decode prog_54_method_6_code 19 = .ok (.getfield 19, 3) := by decide +kernel
theorem d8_22 : decode prog_54_method_6_code 22 = .ok (.lload_n 3, 1) := by decide +kernel
theorem d8_23 : decode prog_54_method_6_code 23 = .ok (.ladd, 1) := by decide +kernel
theorem d8_24 : decode prog_54_method_6_code 24 = .ok (.putfield 19, 3) := by decide +kernel
theorem d8_27 : decode prog_54_method_6_code 27 = .ok (.aload_n 0, 1) := by decide +kernel
theorem d8_28 : decode prog_54_method_6_code 28 = .ok (.dup, 1) := by decide +kernel
theorem d8_29 : decode prog_54_method_6_code 29 = .ok (.getfield 22, 3) := by decide +kernel
theorem d8_32 : decode prog_54_method_6_code 32 = .ok (.lconst 1, 1) := by decide +kernel
theorem d8_33 : decode prog_54_method_6_code 33 = .ok (.ladd, 1) := by decide +kernel
theorem d8_34 : decode prog_54_method_6_code 34 = .ok (.putfield 22, 3) := by decide +kernel
theorem d8_37 : decode prog_54_method_6_code 37 = .ok (.return_, 1) := by decide +kernel
def Q_rm8 (Z : State) (a : Addr) (x1 : Int64) (x2 : Int64) (cn : Int64) (hv : Value) (h0 : Heap) (n0 : Nat) (v : Option Value) (h : Heap) (L : List Loc) : Prop := v = none ∧ Fr n0 L ∧ Keep h0 h [a] ∧ Bs h0.size [a] L ∧ MK h0 h ∧ TB Z h a (own_c1 x1 cn) hv
theorem ef_rm8 (m : MethodId) (a : Addr) (x1 : Int64) (x2 : Int64) : entryFrame m #[(.ref a), (.long x1), (.long x2)] 5 = mkF m 0 #[.val (.ref a), .val (.long x1), .second, .val (.long x2), .second] [] := by first | (simp [entryFrame, mkF, argsToLocals, Value.category]; done) | rfl
set_option maxRecDepth 65536 in
set_option maxHeartbeats 40000000 in
theorem rm8 (l : Launch) (Z : State) (a0 : Array Value) (hw : ∀ d ∈ tables_1, d.before a0 Z = true) (ws : List Jvm.Cond) (a : Addr) (x1 : Int64) (x2 : Int64) (cn : Int64) (hv : Value) (h0 : Heap) (n0 : Nat) (Z0 : n0 ≤ h0.size) (P : TB Z h0 a cn hv) (gn_a : n0 ≤ a) :
    MetFree l (⟨"com/example/manyhands/manyhands/crowd/Totals", "add", "(JJ)V"⟩ : MethodName) (head1 (Jvm.Cond.code (⟨"com/example/manyhands/manyhands/crowd/Totals", "add", "(JJ)V"⟩ : MethodName) prog_54_method_6_code 5 none :: ws) ({ frames := 0, cells := 0, slots := 0, locals := 0 } : Room)) (fun ag_ U_ => ag_ = #[(.ref a), (.long x1), (.long x2)] ∧ Z.Warmed39 U_.vm ∧ U_.heap = h0) (fun _ _ _ _ _ => True) (fun _ U_ o_ V_ => ∃ v_ L_, o_ = .returned v_ ∧ (Q_rm8 Z a x1 x2 cn hv h0 n0) v_ V_.heap L_ ∧ FrameEnd U_ o_ V_ L_ ({ frames := 0, cells := 0, slots := 0, locals := 0 } : Room).cells ({ frames := 0, cells := 0, slots := 0, locals := 0 } : Room).slots) := by
  refine MetFree.of_bodySF (plainFor_of_name own_pn0) hisR ?_
  intro p e s m args below meth c s₁ Bd hml0 hP hK
  obtain ⟨rfl, hZ, hh⟩ := hP
  have hx := Bd.exec
  have hby := Bd.bytes
  have hml : c.maxLocals = 5 := hml0
  have hown : s.vm.findClass "com/example/manyhands/manyhands/crowd/Totals" = some m.cls := findClass_of_methodNamed Bd.named
  have hnm := (name_of_methodNamed Bd.named Bd.method).1
  have X0 : Stand p l e ({ frames := 0, cells := 0, slots := 0, locals := 0 } : Room) s m #[(.ref a), (.long x1), (.long x2)] below meth c s₁ [] 0 0 := Stand.of_body Bd
  have e0 : s₁.heap = h0 := by rw [← hh, Bd.state]; rfl
  have N0 := Fr.nil n0
  refine Go.st (G := fun s₂ o_ => ∃ v_ L_, o_ = .returned v_ ∧ (Q_rm8 Z a x1 x2 cn hv h0 n0) v_ s₂.heap L_ ∧ FrameEnd s o_ s₂ L_ ({ frames := 0, cells := 0, slots := 0, locals := 0 } : Room).cells ({ frames := 0, cells := 0, slots := 0, locals := 0 } : Room).slots) (fun t kt => castTop (ef_rm8 m a x1 x2) kt) ?_
  obtain ⟨E_a, ⟨zta, Fta⟩, ⟨zsa, Fsa⟩, ⟨zca, Fca⟩, Fna, Fha⟩ := id P
  show Go p e below _ (s₁.setTop (mkF m 0 #[.val (.ref a), .val (.long x1), .second, .val (.long x2), .second] []))
  refine Go.st (fun _ kt => XS.lloadN X0.here hx rfl (hb hby d8_0) rfl kt) ?_
  show Go p e below _ (s₁.setTop (mkF m 1 #[.val (.ref a), .val (.long x1), .second, .val (.long x2), .second] [(.long x1)]))
  refine Go.st (fun _ kt => XS.lconst X0.here hx rfl (hb hby d8_1) kt) ?_
  show Go p e below _ (s₁.setTop (mkF m 2 #[.val (.ref a), .val (.long x1), .second, .val (.long x2), .second] [(.long (0 : Int64)), (.long x1)]))
  refine Go.st (fun _ kt => XS.lcmp X0.here hx rfl (hb hby d8_2) rfl kt) ?_
  show Go p e below _ (s₁.setTop (mkF m 3 #[.val (.ref a), .val (.long x1), .second, .val (.long x2), .second] [(.int (lcmpW x1 (0 : Int64)))]))
  by_cases hc3_1 : (lcmpW x1 (0 : Int64)) = (0 : Int32)
  · refine Go.st (fun _ kt => XS.ifNo X0.here hx rfl (hb hby d8_3) rfl ((if0 _ _).trans (teq hc3_1).2) kt) ?_
    show Go p e below _ (s₁.setTop (mkF m 6 #[.val (.ref a), .val (.long x1), .second, .val (.long x2), .second] []))
    refine Go.retV X0 hx Bd.returns (BodyLoose.notSynchronized Bd) (hb hby d8_6) (Q := (Q_rm8 Z a x1 x2 cn hv h0 n0)) (by decide) (by decide) ?_
    show (Q_rm8 Z a x1 x2 cn hv h0 n0) _ s₁.heap _
    rw [e0]
    exact ⟨rfl, N0, (Keep.refl h0 [a]), (Bs.nil h0.size [a]), (MK.refl h0), ⟨E_a, ⟨_, Fta⟩, ⟨_, Fsa⟩, ⟨_, Fca⟩, (by rw [show own_c1 x1 cn = _ from if_pos ((lw_eq _ _).mp hc3_1)]; exact Fna), Fha⟩⟩
  · refine Go.st (fun _ kt => XS.ifYes X0.here hx rfl (pc0 := 3) (pc' := 7) rfl (hb hby d8_3) rfl ((if0 _ _).trans (feq hc3_1).2) (by decide) (by decide) kt) ?_
    show Go p e below _ (s₁.setTop (mkF m 7 #[.val (.ref a), .val (.long x1), .second, .val (.long x2), .second] []))
    refine Go.st (fun _ kt => XS.aloadN X0.here hx rfl (hb hby d8_7) rfl rfl kt) ?_
    show Go p e below _ (s₁.setTop (mkF m 8 #[.val (.ref a), .val (.long x1), .second, .val (.long x2), .second] [(.ref a)]))
    refine Go.st (fun _ kt => XS.dup X0.here hx rfl (hb hby d8_8) rfl rfl kt) ?_
    show Go p e below _ (s₁.setTop (mkF m 9 #[.val (.ref a), .val (.long x1), .second, .val (.long x2), .second] [(.ref a), (.ref a)]))
    obtain ⟨T2, X2, e2, st2⟩ := getF X0 hx hZ hown (host := "") (Or.inl (hw _ (List.mem_of_getElem? (i := 22) rfl))) Via.refl e0 Fsa (g := (mkF m 9 #[.val (.ref a), .val (.long x1), .second, .val (.long x2), .second] [(.ref a), (.ref a)])) rfl rfl (hb hby d8_9)
    refine Go.st st2 ?_
    show Go p e below _ (T2.setTop (mkF m 12 #[.val (.ref a), .val (.long x1), .second, .val (.long x2), .second] [(.long zsa), (.ref a)]))
    refine Go.st (fun _ kt => XS.lloadN X2.here hx rfl (hb hby d8_12) rfl kt) ?_
    show Go p e below _ (T2.setTop (mkF m 13 #[.val (.ref a), .val (.long x1), .second, .val (.long x2), .second] [(.long x1), (.long zsa), (.ref a)]))
    refine Go.st (fun _ kt => XS.ladd X2.here hx rfl (hb hby d8_13) rfl kt) ?_
    show Go p e below _ (T2.setTop (mkF m 14 #[.val (.ref a), .val (.long x1), .second, .val (.long x2), .second] [(.long (zsa + x1)), (.ref a)]))
    obtain ⟨T3, h3, X3, e3, W3, st3⟩ := putF X2 hx hZ hown (host := "") (Or.inl (hw _ (List.mem_of_getElem? (i := 22) rfl))) Via.refl e2 Fsa E_a (Or.inl (hw _ (List.mem_of_getElem? (i := 23) rfl))) (hw _ (List.mem_of_getElem? (i := 1) rfl)) (ty := .long) (by decide) rfl rfl (g := (mkF m 14 #[.val (.ref a), .val (.long x1), .second, .val (.long x2), .second] [(.long (zsa + x1)), (.ref a)])) rfl rfl (hb hby d8_14)
    refine Go.st st3 ?_
    have Fw3 := Fsa.same W3
    have Zs3 : n0 ≤ h3.size := Nat.le_trans Z0 (Nat.le_of_eq W3.size.symm)
    have N3 := Fr.snoc X3 N0 gn_a
    have K3 : Keep h0 h3 [a] := (Keep.refl h0 [a]).wr W3 (Or.inl (List.mem_of_getElem? (i := 0) rfl))
    have B3 : Bs h0.size [a] _ := Bs.snoc X3 (Bs.nil h0.size [a]) (Or.inl (List.mem_of_getElem? (i := 0) rfl))
    have Mk3 := MK.wr (MK.refl h0) W3
    show Go p e below _ (T3.setTop (mkF m 17 #[.val (.ref a), .val (.long x1), .second, .val (.long x2), .second] []))
    refine Go.st (fun _ kt => XS.aloadN X3.here hx rfl (hb hby d8_17) rfl rfl kt) ?_
    show Go p e below _ (T3.setTop (mkF m 18 #[.val (.ref a), .val (.long x1), .second, .val (.long x2), .second] [(.ref a)]))
    refine Go.st (fun _ kt => XS.dup X3.here hx rfl (hb hby d8_18) rfl rfl kt) ?_
    show Go p e below _ (T3.setTop (mkF m 19 #[.val (.ref a), .val (.long x1), .second, .val (.long x2), .second] [(.ref a), (.ref a)]))
    have f4 := (Fca.other W3 (Or.inr (slot_ne (Or.inl (hw _ (List.mem_of_getElem? (i := 25) rfl))) (Or.inl (hw _ (List.mem_of_getElem? (i := 23) rfl))) (by decide) (t := .long) (t' := .long) (by decide) (by decide))))
    obtain ⟨T5, X5, e5, st5⟩ := getF X3 hx hZ hown (host := "") (Or.inl (hw _ (List.mem_of_getElem? (i := 24) rfl))) Via.refl e3 f4 (g := (mkF m 19 #[.val (.ref a), .val (.long x1), .second, .val (.long x2), .second] [(.ref a), (.ref a)])) rfl rfl (hb hby d8_19)
    refine Go.st st5 ?_
    show Go p e below _ (T5.setTop (mkF m 22 #[.val (.ref a), .val (.long x1), .second, .val (.long x2), .second] [(.long zca), (.ref a)]))
    refine Go.st (fun _ kt => XS.lloadN X5.here hx rfl (hb hby d8_22) rfl kt) ?_
    show Go p e below _ (T5.setTop (mkF m 23 #[.val (.ref a), .val (.long x1), .second, .val (.long x2), .second] [(.long x2), (.long zca), (.ref a)]))
    refine Go.st (fun _ kt => XS.ladd X5.here hx rfl (hb hby d8_23) rfl kt) ?_
    show Go p e below _ (T5.setTop (mkF m 24 #[.val (.ref a), .val (.long x1), .second, .val (.long x2), .second] [(.long (zca + x2)), (.ref a)]))
    have f6 := (E_a.wr W3)
    obtain ⟨T7, h7, X7, e7, W7, st7⟩ := putF X5 hx hZ hown (host := "") (Or.inl (hw _ (List.mem_of_getElem? (i := 24) rfl))) Via.refl e5 f4 f6 (Or.inl (hw _ (List.mem_of_getElem? (i := 25) rfl))) (hw _ (List.mem_of_getElem? (i := 1) rfl)) (ty := .long) (by decide) rfl rfl (g := (mkF m 24 #[.val (.ref a), .val (.long x1), .second, .val (.long x2), .second] [(.long (zca + x2)), (.ref a)])) rfl rfl (hb hby d8_24)
    refine Go.st st7 ?_
    have Fw7 := f4.same W7
    have Zs7 : n0 ≤ h7.size := Nat.le_trans Zs3 (Nat.le_of_eq W7.size.symm)
    have N7 := Fr.snoc X7 N3 gn_a
    have K7 : Keep h0 h7 [a] := K3.wr W7 (Or.inl (List.mem_of_getElem? (i := 0) rfl))
    have B7 : Bs h0.size [a] _ := Bs.snoc X7 B3 (Or.inl (List.mem_of_getElem? (i := 0) rfl))
    have Mk7 := MK.wr Mk3 W7
    show Go p e below _ (T7.setTop (mkF m 27 #[.val (.ref a), .val (.long x1), .second, .val (.long x2), .second] []))
    refine Go.st (fun _ kt => XS.aloadN X7.here hx rfl (hb hby d8_27) rfl rfl kt) ?_
    show Go p e below _ (T7.setTop (mkF m 28 #[.val (.ref a), .val (.long x1), .second, .val (.long x2), .second] [(.ref a)]))
    refine Go.st (fun _ kt => XS.dup X7.here hx rfl (hb hby d8_28) rfl rfl kt) ?_
    show Go p e below _ (T7.setTop (mkF m 29 #[.val (.ref a), .val (.long x1), .second, .val (.long x2), .second] [(.ref a), (.ref a)]))
    have f8 := ((Fna.other W3 (Or.inr (slot_ne (Or.inl (hw _ (List.mem_of_getElem? (i := 27) rfl))) (Or.inl (hw _ (List.mem_of_getElem? (i := 23) rfl))) (by decide) (t := .long) (t' := .long) (by decide) (by decide)))).other W7 (Or.inr (slot_ne (Or.inl (hw _ (List.mem_of_getElem? (i := 27) rfl))) (Or.inl (hw _ (List.mem_of_getElem? (i := 25) rfl))) (by decide) (t := .long) (t' := .long) (by decide) (by decide))))
    obtain ⟨T9, X9, e9, st9⟩ := getF X7 hx hZ hown (host := "") (Or.inl (hw _ (List.mem_of_getElem? (i := 26) rfl))) Via.refl e7 f8 (g := (mkF m 29 #[.val (.ref a), .val (.long x1), .second, .val (.long x2), .second] [(.ref a), (.ref a)])) rfl rfl (hb hby d8_29)
    refine Go.st st9 ?_
    show Go p e below _ (T9.setTop (mkF m 32 #[.val (.ref a), .val (.long x1), .second, .val (.long x2), .second] [(.long cn), (.ref a)]))
    refine Go.st (fun _ kt => XS.lconst X9.here hx rfl (hb hby d8_32) kt) ?_
    show Go p e below _ (T9.setTop (mkF m 33 #[.val (.ref a), .val (.long x1), .second, .val (.long x2), .second] [(.long (1 : Int64)), (.long cn), (.ref a)]))
    refine Go.st (fun _ kt => XS.ladd X9.here hx rfl (hb hby d8_33) rfl kt) ?_
    show Go p e below _ (T9.setTop (mkF m 34 #[.val (.ref a), .val (.long x1), .second, .val (.long x2), .second] [(.long (cn + (1 : Int64))), (.ref a)]))
    have f10 := (f6.wr W7)
    obtain ⟨T11, h11, X11, e11, W11, st11⟩ := putF X9 hx hZ hown (host := "") (Or.inl (hw _ (List.mem_of_getElem? (i := 26) rfl))) Via.refl e9 f8 f10 (Or.inl (hw _ (List.mem_of_getElem? (i := 27) rfl))) (hw _ (List.mem_of_getElem? (i := 1) rfl)) (ty := .long) (by decide) rfl rfl (g := (mkF m 34 #[.val (.ref a), .val (.long x1), .second, .val (.long x2), .second] [(.long (cn + (1 : Int64))), (.ref a)])) rfl rfl (hb hby d8_34)
    refine Go.st st11 ?_
    have Fw11 := f8.same W11
    have Zs11 : n0 ≤ h11.size := Nat.le_trans Zs7 (Nat.le_of_eq W11.size.symm)
    have N11 := Fr.snoc X11 N7 gn_a
    have K11 : Keep h0 h11 [a] := K7.wr W11 (Or.inl (List.mem_of_getElem? (i := 0) rfl))
    have B11 : Bs h0.size [a] _ := Bs.snoc X11 B7 (Or.inl (List.mem_of_getElem? (i := 0) rfl))
    have Mk11 := MK.wr Mk7 W11
    show Go p e below _ (T11.setTop (mkF m 37 #[.val (.ref a), .val (.long x1), .second, .val (.long x2), .second] []))
    have f12 := (f10.wr W11)
    have f13 := (((Fta.other W3 (Or.inr (slot_ne (Or.inl (hw _ (List.mem_of_getElem? (i := 21) rfl))) (Or.inl (hw _ (List.mem_of_getElem? (i := 23) rfl))) (by decide) (t := .long) (t' := .long) (by decide) (by decide)))).other W7 (Or.inr (slot_ne (Or.inl (hw _ (List.mem_of_getElem? (i := 21) rfl))) (Or.inl (hw _ (List.mem_of_getElem? (i := 25) rfl))) (by decide) (t := .long) (t' := .long) (by decide) (by decide)))).other W11 (Or.inr (slot_ne (Or.inl (hw _ (List.mem_of_getElem? (i := 21) rfl))) (Or.inl (hw _ (List.mem_of_getElem? (i := 27) rfl))) (by decide) (t := .long) (t' := .long) (by decide) (by decide))))
    have f14 := ((Fw3.other W7 (Or.inr (slot_ne (Or.inl (hw _ (List.mem_of_getElem? (i := 23) rfl))) (Or.inl (hw _ (List.mem_of_getElem? (i := 25) rfl))) (by decide) (t := .long) (t' := .long) (by decide) (by decide)))).other W11 (Or.inr (slot_ne (Or.inl (hw _ (List.mem_of_getElem? (i := 23) rfl))) (Or.inl (hw _ (List.mem_of_getElem? (i := 27) rfl))) (by decide) (t := .long) (t' := .long) (by decide) (by decide))))
    have f15 := (Fw7.other W11 (Or.inr (slot_ne (Or.inl (hw _ (List.mem_of_getElem? (i := 25) rfl))) (Or.inl (hw _ (List.mem_of_getElem? (i := 27) rfl))) (by decide) (t := .long) (t' := .long) (by decide) (by decide))))
    have f16 := (((Fha.other W3 (Or.inr (slot_ne (Or.inl (hw _ (List.mem_of_getElem? (i := 42) rfl))) (Or.inl (hw _ (List.mem_of_getElem? (i := 23) rfl))) (by decide) (t := (.object "com/example/manyhands/manyhands/crowd/Totals$Held")) (t' := .long) (by decide) (by decide)))).other W7 (Or.inr (slot_ne (Or.inl (hw _ (List.mem_of_getElem? (i := 42) rfl))) (Or.inl (hw _ (List.mem_of_getElem? (i := 25) rfl))) (by decide) (t := (.object "com/example/manyhands/manyhands/crowd/Totals$Held")) (t' := .long) (by decide) (by decide)))).other W11 (Or.inr (slot_ne (Or.inl (hw _ (List.mem_of_getElem? (i := 42) rfl))) (Or.inl (hw _ (List.mem_of_getElem? (i := 27) rfl))) (by decide) (t := (.object "com/example/manyhands/manyhands/crowd/Totals$Held")) (t' := .long) (by decide) (by decide))))
    refine Go.retV X11 hx Bd.returns (BodyLoose.notSynchronized Bd) (hb hby d8_37) (Q := (Q_rm8 Z a x1 x2 cn hv h0 n0)) (by decide) (by decide) ?_
    show (Q_rm8 Z a x1 x2 cn hv h0 n0) _ T11.heap _
    rw [e11]
    exact ⟨rfl, N11, K11, B11, Mk11, ⟨f12, ⟨_, f13⟩, ⟨_, f14⟩, ⟨_, f15⟩, (by rw [show own_c1 x1 cn = _ from if_neg (fun q => hc3_1 ((lw_eq _ _).mpr q))]; exact Fw11), f16⟩⟩
theorem d3_0 : decode prog_54_method_4_code 0 = .ok (.iload_n 1, 1) := by decide +kernel
theorem d3_1 : decode prog_54_method_4_code 1 = .ok (.ifCond .ne 4, 3) := by decide +kernel
theorem d3_4 : decode prog_54_method_4_code 4 = .ok (.return_, 1) := by decide +kernel
theorem d3_5 : decode prog_54_method_4_code 5 = .ok (.aload_n 0, 1) := by decide +kernel
theorem d3_6 : decode prog_54_method_4_code 6 = .ok (.dup, 1) := by decide +kernel
theorem d3_7 : decode prog_54_method_4_code 7 = .ok (.getfield 12, 3) := by decide +kernel
theorem d3_10 : decode prog_54_method_4_code 10 = .ok (.iload_n 1, 1) := by decide +kernel
theorem d3_11 : decode prog_54_method_4_code 11 = .ok (.i2l, 1) := by decide +kernel
theorem d3_12 : decode prog_54_method_4_code 12 = .ok (.ladd, 1) := by decide +kernel
theorem d3_13 : decode prog_54_method_4_code 13 = .ok (.putfield 12, 3) := by decide +kernel
theorem d3_16 : decode prog_54_method_4_code 16 = .ok (.aload_n 0, 1) := by decide +kernel
theorem d3_17 : decode prog_54_method_4_code 17 = .ok (.dup, 1) := by decide +kernel
theorem d3_18 : decode prog_54_method_4_code 18 = .ok (.getfield 22, 3) := by decide +kernel
theorem d3_21 : decode prog_54_method_4_code 21 = .ok (.lconst 1, 1) := by decide +kernel
theorem d3_22 : decode prog_54_method_4_code 22 = .ok (.ladd, 1) := by decide +kernel
theorem d3_23 : decode prog_54_method_4_code 23 = .ok (.putfield 22, 3) := by decide +kernel
theorem d3_26 : decode prog_54_method_4_code 26 = .ok (.return_, 1) := by decide +kernel
def Q_rm3 (Z : State) (a : Addr) (i : Int32) (cn : Int64) (hv : Value) (h0 : Heap) (n0 : Nat) (v : Option Value) (h : Heap) (L : List Loc) : Prop := v = none ∧ Fr n0 L ∧ Keep h0 h [a] ∧ Unt h a ∧ TB Z h a (own_c0 i cn) hv
theorem ef_rm3 (m : MethodId) (a : Addr) (i : Int32) : entryFrameSync m #[(.ref a), (.int i)] 2 a = mkL a m 0 #[.val (.ref a), .val (.int i)] [] := by first | rfl | (simp [entryFrameSync, entryFrame, mkL, argsToLocals, Value.category]; done)
set_option maxRecDepth 65536 in
set_option maxHeartbeats 40000000 in
theorem rm3 (l : Launch) (Z : State) (a0 : Array Value) (hw : ∀ d ∈ tables_1, d.before a0 Z = true) (ws : List Jvm.Cond) (a : Addr) (i : Int32) (cn : Int64) (hv : Value) (h0 : Heap) (n0 : Nat) (Z0 : n0 ≤ h0.size) (P : TB Z h0 a cn hv) (U_a : Unt h0 a) (gn_a : n0 ≤ a) :
    MetFree l (⟨"com/example/manyhands/manyhands/crowd/Totals", "addTasks", "(I)V"⟩ : MethodName) (head1 (Jvm.Cond.codeSync (⟨"com/example/manyhands/manyhands/crowd/Totals", "addTasks", "(I)V"⟩ : MethodName) prog_54_method_4_code 2 none :: Jvm.Cond.instanceMethod (⟨"com/example/manyhands/manyhands/crowd/Totals", "addTasks", "(I)V"⟩ : MethodName) :: ws) ({ frames := 0, cells := 0, slots := 0, locals := 0 } : Room)) (fun ag_ U_ => ag_ = #[(.ref a), (.int i)] ∧ Z.Warmed39 U_.vm ∧ U_.heap = h0 ∧ ∃ cell : Cell, h0[a]? = some cell ∧ cell.enterable U_.cur) (fun _ _ _ _ _ => True) (fun _ U_ o_ V_ => ∃ v_ L_, o_ = .returned v_ ∧ (Q_rm3 Z a i cn hv h0 n0) v_ V_.heap L_ ∧ FrameEnd U_ o_ V_ L_ ({ frames := 0, cells := 0, slots := 0, locals := 0 } : Room).cells ({ frames := 0, cells := 0, slots := 0, locals := 0 } : Room).slots) := by
  refine MetFree.of_bodySync (plainFor_of_name own_pn0) (hisS (List.mem_cons_self ..)) (fun _ s _ ⟨h1, _, h2, cl, h3, h4⟩ => ⟨a, cl, by rw [h1]; rfl, by rw [h2]; exact h3, h4⟩) ?_
  intro p e s m args below meth c a' cell s₁ Bd hml0 hP hK
  obtain ⟨rfl, hZ0, hh, -⟩ := hP
  cases Bd.receiver
  have hx := Bd.exec
  have hby : c.code = prog_54_method_4_code := Bd.bytes
  have hml : c.maxLocals = 2 := hml0
  have X0 : Stand p l e ({ frames := 0, cells := 0, slots := 0, locals := 0 } : Room) (s.setCell a (cell.withEntry s.cur)) m #[(.ref a), (.int i)] below meth c s₁ [] 0 0 := Stand.of_bodySync Bd
  have hZ : Z.Warmed39 (s.setCell a (cell.withEntry s.cur)).vm := hZ0
  have hown : (s.setCell a (cell.withEntry s.cur)).vm.findClass "com/example/manyhands/manyhands/crowd/Totals" = some m.cls := (findClass_of_methodNamed Bd.named :)
  have M0 : Mon s.heap s₁.heap := by rw [Bd.state]; exact mon_set Bd.object _
  obtain ⟨hS, e0⟩ : ∃ z, s₁.heap = z := ⟨_, rfl⟩
  rw [hh, e0] at M0
  have ZS : n0 ≤ hS.size := by rw [M0.size]; exact Z0
  have BZ0 : s.heap.size ≤ hS.size := by rw [hh, M0.size]; exact Nat.le_refl _
  have N0 := Fr.nil n0
  have B0 := Bs.nil s.heap.size [a]
  refine Go.st (G := fun s₂ o_ => ∃ v_ L_, o_ = .returned v_ ∧ (Q_rm3 Z a i cn hv h0 n0) v_ s₂.heap L_ ∧ FrameEnd s o_ s₂ L_ ({ frames := 0, cells := 0, slots := 0, locals := 0 } : Room).cells ({ frames := 0, cells := 0, slots := 0, locals := 0 } : Room).slots) (fun t kt => castTop (ef_rm3 m a i) kt) ?_
  obtain ⟨E_a, ⟨zta, Fta⟩, ⟨zsa, Fsa⟩, ⟨zca, Fca⟩, Fna, Fha⟩ := id P
  show Go p e below _ (s₁.setTop (mkL a m 0 #[.val (.ref a), .val (.int i)] []))
  refine Go.st (fun _ kt => XS.iloadN X0.here hx rfl (hb hby d3_0) rfl kt) ?_
  show Go p e below _ (s₁.setTop (mkL a m 1 #[.val (.ref a), .val (.int i)] [(.int i)]))
  by_cases hc1_1 : i = (0 : Int32)
  · refine Go.st (fun _ kt => XS.ifNo X0.here hx rfl (hb hby d3_1) rfl ((if0 _ _).trans (teq hc1_1).2) kt) ?_
    show Go p e below _ (s₁.setTop (mkL a m 4 #[.val (.ref a), .val (.int i)] []))
    refine Go.syncV X0 hx Bd.object Bd.enterable Bd.synchronized Bd.returns (hb hby d3_4) (Q := (Q_rm3 Z a i cn hv h0 n0)) (by decide) (by decide) (ws := [a]) B0 ?_
    intro hV Mv Kv Uv
    rw [hh] at Kv Uv
    rw [e0] at Mv
    have f2 := (E_a.mon M0)
    have f3 := (Fta.mon M0)
    have f4 := (Fsa.mon M0)
    have f5 := (Fca.mon M0)
    have f6 := (Fna.mon M0)
    have f7 := (Fha.mon M0)
    exact ⟨rfl, N0, Kv, Uv _ U_a, ⟨f2.mon Mv, ⟨_, f3.mon Mv⟩, ⟨_, f4.mon Mv⟩, ⟨_, f5.mon Mv⟩, (by rw [show own_c0 i cn = _ from if_pos (hc1_1)]; exact f6.mon Mv), f7.mon Mv⟩⟩
  · refine Go.st (fun _ kt => XS.ifYes X0.here hx rfl (pc0 := 1) (pc' := 5) rfl (hb hby d3_1) rfl ((if0 _ _).trans (feq hc1_1).2) (by decide) (by decide) kt) ?_
    show Go p e below _ (s₁.setTop (mkL a m 5 #[.val (.ref a), .val (.int i)] []))
    refine Go.st (fun _ kt => XS.aloadN X0.here hx rfl (hb hby d3_5) rfl rfl kt) ?_
    show Go p e below _ (s₁.setTop (mkL a m 6 #[.val (.ref a), .val (.int i)] [(.ref a)]))
    refine Go.st (fun _ kt => XS.dup X0.here hx rfl (hb hby d3_6) rfl rfl kt) ?_
    show Go p e below _ (s₁.setTop (mkL a m 7 #[.val (.ref a), .val (.int i)] [(.ref a), (.ref a)]))
    have f8 := (Fta.mon M0)
    obtain ⟨T9, X9, e9, st9⟩ := getF X0 hx hZ hown (host := "") (Or.inl (hw _ (List.mem_of_getElem? (i := 20) rfl))) Via.refl e0 f8 (g := (mkL a m 7 #[.val (.ref a), .val (.int i)] [(.ref a), (.ref a)])) rfl rfl (hb hby d3_7)
    refine Go.st st9 ?_
    show Go p e below _ (T9.setTop (mkL a m 10 #[.val (.ref a), .val (.int i)] [(.long zta), (.ref a)]))
    refine Go.st (fun _ kt => XS.iloadN X9.here hx rfl (hb hby d3_10) rfl kt) ?_
    show Go p e below _ (T9.setTop (mkL a m 11 #[.val (.ref a), .val (.int i)] [(.int i), (.long zta), (.ref a)]))
    refine Go.st (fun _ kt => XS.i2l X9.here hx rfl (hb hby d3_11) rfl kt) ?_
    show Go p e below _ (T9.setTop (mkL a m 12 #[.val (.ref a), .val (.int i)] [(.long (i.toInt64)), (.long zta), (.ref a)]))
    refine Go.st (fun _ kt => XS.ladd X9.here hx rfl (hb hby d3_12) rfl kt) ?_
    show Go p e below _ (T9.setTop (mkL a m 13 #[.val (.ref a), .val (.int i)] [(.long (zta + (i.toInt64))), (.ref a)]))
    have f10 := (E_a.mon M0)
    obtain ⟨T11, h11, X11, e11, W11, st11⟩ := putF X9 hx hZ hown (host := "") (Or.inl (hw _ (List.mem_of_getElem? (i := 20) rfl))) Via.refl e9 f8 f10 (Or.inl (hw _ (List.mem_of_getElem? (i := 21) rfl))) (hw _ (List.mem_of_getElem? (i := 1) rfl)) (ty := .long) (by decide) rfl rfl (g := (mkL a m 13 #[.val (.ref a), .val (.int i)] [(.long (zta + (i.toInt64))), (.ref a)])) rfl rfl (hb hby d3_13)
    refine Go.st st11 ?_
    have Fw11 := f8.same W11
    have Zs11 : n0 ≤ h11.size := Nat.le_trans ZS (Nat.le_of_eq W11.size.symm)
    have N11 := Fr.snoc X11 N0 gn_a
    have B11 : Bs s.heap.size [a] _ := Bs.snoc X11 B0 (Or.inl (List.mem_of_getElem? (i := 0) rfl))
    have BZ11 : s.heap.size ≤ h11.size := Nat.le_trans BZ0 (Nat.le_of_eq W11.size.symm)
    show Go p e below _ (T11.setTop (mkL a m 16 #[.val (.ref a), .val (.int i)] []))
    refine Go.st (fun _ kt => XS.aloadN X11.here hx rfl (hb hby d3_16) rfl rfl kt) ?_
    show Go p e below _ (T11.setTop (mkL a m 17 #[.val (.ref a), .val (.int i)] [(.ref a)]))
    refine Go.st (fun _ kt => XS.dup X11.here hx rfl (hb hby d3_17) rfl rfl kt) ?_
    show Go p e below _ (T11.setTop (mkL a m 18 #[.val (.ref a), .val (.int i)] [(.ref a), (.ref a)]))
    have f12 := ((Fna.mon M0).other W11 (Or.inr (slot_ne (Or.inl (hw _ (List.mem_of_getElem? (i := 27) rfl))) (Or.inl (hw _ (List.mem_of_getElem? (i := 21) rfl))) (by decide) (t := .long) (t' := .long) (by decide) (by decide))))
    obtain ⟨T13, X13, e13, st13⟩ := getF X11 hx hZ hown (host := "") (Or.inl (hw _ (List.mem_of_getElem? (i := 26) rfl))) Via.refl e11 f12 (g := (mkL a m 18 #[.val (.ref a), .val (.int i)] [(.ref a), (.ref a)])) rfl rfl (hb hby d3_18)
    refine Go.st st13 ?_
    show Go p e below _ (T13.setTop (mkL a m 21 #[.val (.ref a), .val (.int i)] [(.long cn), (.ref a)]))
    refine Go.st (fun _ kt => XS.lconst X13.here hx rfl (hb hby d3_21) kt) ?_
    show Go p e below _ (T13.setTop (mkL a m 22 #[.val (.ref a), .val (.int i)] [(.long (1 : Int64)), (.long cn), (.ref a)]))
    refine Go.st (fun _ kt => XS.ladd X13.here hx rfl (hb hby d3_22) rfl kt) ?_
    show Go p e below _ (T13.setTop (mkL a m 23 #[.val (.ref a), .val (.int i)] [(.long (cn + (1 : Int64))), (.ref a)]))
    have f14 := (f10.wr W11)
    obtain ⟨T15, h15, X15, e15, W15, st15⟩ := putF X13 hx hZ hown (host := "") (Or.inl (hw _ (List.mem_of_getElem? (i := 26) rfl))) Via.refl e13 f12 f14 (Or.inl (hw _ (List.mem_of_getElem? (i := 27) rfl))) (hw _ (List.mem_of_getElem? (i := 1) rfl)) (ty := .long) (by decide) rfl rfl (g := (mkL a m 23 #[.val (.ref a), .val (.int i)] [(.long (cn + (1 : Int64))), (.ref a)])) rfl rfl (hb hby d3_23)
    refine Go.st st15 ?_
    have Fw15 := f12.same W15
    have Zs15 : n0 ≤ h15.size := Nat.le_trans Zs11 (Nat.le_of_eq W15.size.symm)
    have N15 := Fr.snoc X15 N11 gn_a
    have B15 : Bs s.heap.size [a] _ := Bs.snoc X15 B11 (Or.inl (List.mem_of_getElem? (i := 0) rfl))
    have BZ15 : s.heap.size ≤ h15.size := Nat.le_trans BZ11 (Nat.le_of_eq W15.size.symm)
    show Go p e below _ (T15.setTop (mkL a m 26 #[.val (.ref a), .val (.int i)] []))
    refine Go.syncV X15 hx Bd.object Bd.enterable Bd.synchronized Bd.returns (hb hby d3_26) (Q := (Q_rm3 Z a i cn hv h0 n0)) (by decide) (by decide) (ws := [a]) B15 ?_
    intro hV Mv Kv Uv
    rw [hh] at Kv Uv
    rw [e15] at Mv
    have f16 := (f14.wr W15)
    have f17 := (Fw11.other W15 (Or.inr (slot_ne (Or.inl (hw _ (List.mem_of_getElem? (i := 21) rfl))) (Or.inl (hw _ (List.mem_of_getElem? (i := 27) rfl))) (by decide) (t := .long) (t' := .long) (by decide) (by decide))))
    have f18 := (((Fsa.mon M0).other W11 (Or.inr (slot_ne (Or.inl (hw _ (List.mem_of_getElem? (i := 23) rfl))) (Or.inl (hw _ (List.mem_of_getElem? (i := 21) rfl))) (by decide) (t := .long) (t' := .long) (by decide) (by decide)))).other W15 (Or.inr (slot_ne (Or.inl (hw _ (List.mem_of_getElem? (i := 23) rfl))) (Or.inl (hw _ (List.mem_of_getElem? (i := 27) rfl))) (by decide) (t := .long) (t' := .long) (by decide) (by decide))))
    have f19 := (((Fca.mon M0).other W11 (Or.inr (slot_ne (Or.inl (hw _ (List.mem_of_getElem? (i := 25) rfl))) (Or.inl (hw _ (List.mem_of_getElem? (i := 21) rfl))) (by decide) (t := .long) (t' := .long) (by decide) (by decide)))).other W15 (Or.inr (slot_ne (Or.inl (hw _ (List.mem_of_getElem? (i := 25) rfl))) (Or.inl (hw _ (List.mem_of_getElem? (i := 27) rfl))) (by decide) (t := .long) (t' := .long) (by decide) (by decide))))
    have f20 := (((Fha.mon M0).other W11 (Or.inr (slot_ne (Or.inl (hw _ (List.mem_of_getElem? (i := 42) rfl))) (Or.inl (hw _ (List.mem_of_getElem? (i := 21) rfl))) (by decide) (t := (.object "com/example/manyhands/manyhands/crowd/Totals$Held")) (t' := .long) (by decide) (by decide)))).other W15 (Or.inr (slot_ne (Or.inl (hw _ (List.mem_of_getElem? (i := 42) rfl))) (Or.inl (hw _ (List.mem_of_getElem? (i := 27) rfl))) (by decide) (t := (.object "com/example/manyhands/manyhands/crowd/Totals$Held")) (t' := .long) (by decide) (by decide))))
    exact ⟨rfl, N15, Kv, Uv _ U_a, ⟨f16.mon Mv, ⟨_, f17.mon Mv⟩, ⟨_, f18.mon Mv⟩, ⟨_, f19.mon Mv⟩, (by rw [show own_c0 i cn = _ from if_neg (fun q => hc1_1 (q))]; exact Fw15.mon Mv), f20.mon Mv⟩⟩
theorem own_pd2 : parseMethodDescriptor "(JJ)V" = some ⟨[.long, .long], none⟩ := by decide +kernel
theorem d9_0 : decode prog_54_method_7_code 0 = .ok (.aload_n 0, 1) := by decide +kernel
theorem d9_1 : decode prog_54_method_7_code 1 = .ok (.lload_n 1, 1) := by decide +kernel
theorem d9_2 : decode prog_54_method_7_code 2 = .ok (.lload_n 3, 1) := by decide +kernel
theorem d9_3 : decode prog_54_method_7_code 3 = .ok (.invokevirtual 37, 3) := by decide +kernel
theorem d9_6 : decode prog_54_method_7_code 6 = .ok (.return_, 1) := by decide +kernel
def Q_rm9 (Z : State) (a : Addr) (x1 : Int64) (x2 : Int64) (cn : Int64) (hv : Value) (h0 : Heap) (n0 : Nat) (v : Option Value) (h : Heap) (L : List Loc) : Prop := v = none ∧ Fr n0 L ∧ Keep h0 h [a] ∧ Unt h a ∧ TB Z h a (own_c1 x1 cn) hv
theorem ef_rm9 (m : MethodId) (a : Addr) (x1 : Int64) (x2 : Int64) : entryFrameSync m #[(.ref a), (.long x1), (.long x2)] 5 a = mkL a m 0 #[.val (.ref a), .val (.long x1), .second, .val (.long x2), .second] [] := by first | rfl | (simp [entryFrameSync, entryFrame, mkL, argsToLocals, Value.category]; done)
set_option maxRecDepth 65536 in
set_option maxHeartbeats 40000000 in
theorem rm9 (l : Launch) (Z : State) (a0 : Array Value) (hw : ∀ d ∈ tables_1, d.before a0 Z = true) (ws : List Jvm.Cond) (a : Addr) (x1 : Int64) (x2 : Int64) (cn : Int64) (hv : Value) (h0 : Heap) (n0 : Nat) (Z0 : n0 ≤ h0.size) (P : TB Z h0 a cn hv) (U_a : Unt h0 a) (gn_a : n0 ≤ a) :
    MetFree l (⟨"com/example/manyhands/manyhands/crowd/Totals", "addKeptEarlier", "(JJ)V"⟩ : MethodName) (head1 (Jvm.Cond.codeSync (⟨"com/example/manyhands/manyhands/crowd/Totals", "addKeptEarlier", "(JJ)V"⟩ : MethodName) prog_54_method_7_code 5 none :: Jvm.Cond.instanceMethod (⟨"com/example/manyhands/manyhands/crowd/Totals", "addKeptEarlier", "(JJ)V"⟩ : MethodName) :: ws) ({ frames := 1, cells := 0, slots := 0, locals := 18 } : Room)) (fun ag_ U_ => ag_ = #[(.ref a), (.long x1), (.long x2)] ∧ Z.Warmed39 U_.vm ∧ U_.heap = h0 ∧ ∃ cell : Cell, h0[a]? = some cell ∧ cell.enterable U_.cur) (fun _ _ _ _ _ => True) (fun _ U_ o_ V_ => ∃ v_ L_, o_ = .returned v_ ∧ (Q_rm9 Z a x1 x2 cn hv h0 n0) v_ V_.heap L_ ∧ FrameEnd U_ o_ V_ L_ ({ frames := 1, cells := 0, slots := 0, locals := 18 } : Room).cells ({ frames := 1, cells := 0, slots := 0, locals := 18 } : Room).slots) := by
  refine MetFree.of_bodySync (plainFor_of_name own_pn0) (hisS (List.mem_cons_self ..)) (fun _ s _ ⟨h1, _, h2, cl, h3, h4⟩ => ⟨a, cl, by rw [h1]; rfl, by rw [h2]; exact h3, h4⟩) ?_
  intro p e s m args below meth c a' cell s₁ Bd hml0 hP hK
  obtain ⟨rfl, hZ0, hh, -⟩ := hP
  cases Bd.receiver
  have hx := Bd.exec
  have hby : c.code = prog_54_method_7_code := Bd.bytes
  have hml : c.maxLocals = 5 := hml0
  have X0 : Stand p l e ({ frames := 1, cells := 0, slots := 0, locals := 18 } : Room) (s.setCell a (cell.withEntry s.cur)) m #[(.ref a), (.long x1), (.long x2)] below meth c s₁ [] 0 0 := Stand.of_bodySync Bd
  have hZ : Z.Warmed39 (s.setCell a (cell.withEntry s.cur)).vm := hZ0
  have hown : (s.setCell a (cell.withEntry s.cur)).vm.findClass "com/example/manyhands/manyhands/crowd/Totals" = some m.cls := (findClass_of_methodNamed Bd.named :)
  have M0 : Mon s.heap s₁.heap := by rw [Bd.state]; exact mon_set Bd.object _
  obtain ⟨hS, e0⟩ : ∃ z, s₁.heap = z := ⟨_, rfl⟩
  rw [hh, e0] at M0
  have ZS : n0 ≤ hS.size := by rw [M0.size]; exact Z0
  have BZ0 : s.heap.size ≤ hS.size := by rw [hh, M0.size]; exact Nat.le_refl _
  have N0 := Fr.nil n0
  have B0 := Bs.nil s.heap.size [a]
  refine Go.st (G := fun s₂ o_ => ∃ v_ L_, o_ = .returned v_ ∧ (Q_rm9 Z a x1 x2 cn hv h0 n0) v_ s₂.heap L_ ∧ FrameEnd s o_ s₂ L_ ({ frames := 1, cells := 0, slots := 0, locals := 18 } : Room).cells ({ frames := 1, cells := 0, slots := 0, locals := 18 } : Room).slots) (fun t kt => castTop (ef_rm9 m a x1 x2) kt) ?_
  obtain ⟨E_a, ⟨zta, Fta⟩, ⟨zsa, Fsa⟩, ⟨zca, Fca⟩, Fna, Fha⟩ := id P
  show Go p e below _ (s₁.setTop (mkL a m 0 #[.val (.ref a), .val (.long x1), .second, .val (.long x2), .second] []))
  refine Go.st (fun _ kt => XS.aloadN X0.here hx rfl (hb hby d9_0) rfl rfl kt) ?_
  show Go p e below _ (s₁.setTop (mkL a m 1 #[.val (.ref a), .val (.long x1), .second, .val (.long x2), .second] [(.ref a)]))
  refine Go.st (fun _ kt => XS.lloadN X0.here hx rfl (hb hby d9_1) rfl kt) ?_
  show Go p e below _ (s₁.setTop (mkL a m 2 #[.val (.ref a), .val (.long x1), .second, .val (.long x2), .second] [(.long x1), (.ref a)]))
  refine Go.st (fun _ kt => XS.lloadN X0.here hx rfl (hb hby d9_2) rfl kt) ?_
  show Go p e below _ (s₁.setTop (mkL a m 3 #[.val (.ref a), .val (.long x1), .second, .val (.long x2), .second] [(.long x2), (.long x1), (.ref a)]))
  have f1 := (E_a.mon M0)
  have f2 := (Fta.mon M0)
  have f3 := (Fsa.mon M0)
  have f4 := (Fca.mon M0)
  have f5 := (Fna.mon M0)
  have f6 := (Fha.mon M0)
  obtain ⟨cq7, q7, q7'⟩ := f1.cell
  obtain ⟨_, _, ⟨T7, L7, k7, n7⟩, -, X7, ⟨Lc7, hQ7, l7, y7, z7⟩, st7⟩ := X0.privateBack hx (y := (⟨"com/example/manyhands/manyhands/crowd/Totals", "add", "(JJ)V"⟩ : MethodName)) hown (mvT hZ (hw _ (List.mem_of_getElem? (i := 43) rfl))) (mvT hZ (hw _ (List.mem_of_getElem? (i := 44) rfl))) (own_self hZ (hw _ (List.mem_of_getElem? (i := 1) rfl)) (hw _ (List.mem_of_getElem? (i := 45) rfl)) (hw _ (List.mem_of_getElem? (i := 44) rfl)) (by decide)) (Cond.privateMethod_at (mvP hZ (hw _ (List.mem_of_getElem? (i := 45) rfl)) (args := #[]))) (mvT hZ (hw _ (List.mem_of_getElem? (i := 46) rfl))) (by decide) (backOf (W := 2) (rm8 l Z a0 hw [] a x1 x2 cn hv hS n0 ZS ⟨f1, ⟨_, f2⟩, ⟨_, f3⟩, ⟨_, f4⟩, f5, f6⟩ gn_a) hZ (hw _ (List.mem_of_getElem? (i := 46) rfl)) (hw _ (List.mem_of_getElem? (i := 2) rfl)) (by decide) (by decide)) (g := (mkL a m 3 #[.val (.ref a), .val (.long x1), .second, .val (.long x2), .second] [(.long x2), (.long x1), (.ref a)])) rfl (by rw [hml]; rfl) (Steps.refl _) (a := a) (by rw [e0]; exact q7) q7' (argsL := [(.long x1), (.long x2)]) (rest := []) (lenOf own_pd2 rfl) rfl (by show 2 * 1 + _ ≤ _; exact Nat.le_of_eq rfl) (hb hby d9_3) (fun _ _ => ⟨rfl, e0, (by decide : 0 + 0 ≤ _), (by decide : 0 + 0 ≤ _)⟩)
  dsimp only [Pt.U, Pt.locs, Pt.cells, Pt.slots] at X7 l7 y7 z7 st7 hQ7
  subst l7 y7 z7
  obtain ⟨rfl, N7q, K7q, hB7, hM7, P7⟩ := hQ7
  have Zs7 : n0 ≤ T7.heap.size := Nat.le_trans ZS K7q.1
  have N7 := Fr.app N0 N7q
  have B7 : Bs s.heap.size [a] _ := Bs.app B0 (Bs.up hB7 BZ0 (allS (Or.inl (List.mem_of_getElem? (i := 0) rfl)) all0))
  have BZ7 : s.heap.size ≤ T7.heap.size := Nat.le_trans BZ0 K7q.1
  obtain ⟨E_k7, ⟨ztk7, Ftk7⟩, ⟨zsk7, Fsk7⟩, ⟨zck7, Fck7⟩, Fnk7, Fhk7⟩ := id P7
  refine Go.tr st7 ?_
  show Go p e below _ (T7.setTop (mkL a m 6 #[.val (.ref a), .val (.long x1), .second, .val (.long x2), .second] []))
  refine Go.syncV X7 hx Bd.object Bd.enterable Bd.synchronized Bd.returns (hb hby d9_6) (Q := (Q_rm9 Z a x1 x2 cn hv h0 n0)) (by decide) (by decide) (ws := [a]) B7 ?_
  intro hV Mv Kv Uv
  rw [hh] at Kv Uv
  exact ⟨rfl, N7, Kv, Uv _ U_a, ⟨E_k7.mon Mv, ⟨_, Ftk7.mon Mv⟩, ⟨_, Fsk7.mon Mv⟩, ⟨_, Fck7.mon Mv⟩, Fnk7.mon Mv, Fhk7.mon Mv⟩⟩
theorem own_pd3 : parseMethodDescriptor "(JJJJ)V" = some ⟨[.long, .long, .long, .long], none⟩ := by decide +kernel
theorem d4_0 : decode prog_54_method_9_code 0 = .ok (.new 8, 3) := by decide +kernel
theorem d4_3 : decode prog_54_method_9_code 3 = .ok (.dup, 1) := by decide +kernel
theorem d4_4 : decode prog_54_method_9_code 4 = .ok (.aload_n 0, 1) := by decide +kernel
theorem d4_5 : decode prog_54_method_9_code 5 = .ok (.getfield 12, 3) := by decide +kernel
theorem d4_8 : decode prog_54_method_9_code 8 = .ok (.aload_n 0, 1) := by decide +kernel
theorem d4_9 : decode prog_54_method_9_code 9 = .ok (.getfield 16, 3) := by decide +kernel
theorem d4_12 : decode prog_54_method_9_code 12 = .ok (.aload_n 0, 1) := by decide +kernel
theorem d4_13 : decode prog_54_method_9_code 13 = .ok (.getfield 19, 3) := by decide +kernel
theorem d4_16 : decode prog_54_method_9_code 16 = .ok (.aload_n 0, 1) := by decide +kernel
theorem d4_17 : decode prog_54_method_9_code 17 = .ok (.getfield 22, 3) := by decide +kernel
theorem d4_20 : decode prog_54_method_9_code 20 = .ok (.invokespecial 7, 3) := by decide +kernel
theorem d4_23 : decode prog_54_method_9_code 23 = .ok (.areturn, 1) := by decide +kernel
def Q_rm4 (Z : State) (a : Addr) (cn : Int64) (hv : Value) (h0 : Heap) (n0 : Nat) (v : Option Value) (h : Heap) (L : List Loc) : Prop := ∃ b, v = some (.ref b) ∧ Fr n0 L ∧ Keep h0 h [] ∧ Unt h a ∧ h0.size ≤ b ∧ Fld Z h b "com/example/manyhands/manyhands/crowd/Totals" "counted" "J" (.long cn)
theorem ef_rm4 (m : MethodId) (a : Addr) : entryFrameSync m #[(.ref a)] 1 a = mkL a m 0 #[.val (.ref a)] [] := by first | rfl | (simp [entryFrameSync, entryFrame, mkL, argsToLocals, Value.category]; done)
set_option maxRecDepth 65536 in
set_option maxHeartbeats 40000000 in
theorem rm4 (l : Launch) (Z : State) (a0 : Array Value) (hw : ∀ d ∈ tables_1, d.before a0 Z = true) (ws : List Jvm.Cond) (a : Addr) (cn : Int64) (hv : Value) (h0 : Heap) (n0 : Nat) (Z0 : n0 ≤ h0.size) (P : TB Z h0 a cn hv) (U_a : Unt h0 a) (gn_a : n0 ≤ a) :
    MetFree l (⟨"com/example/manyhands/manyhands/crowd/Totals", "copy", "()Lcom/example/manyhands/manyhands/crowd/Totals;"⟩ : MethodName) (head1 (Jvm.Cond.codeSync (⟨"com/example/manyhands/manyhands/crowd/Totals", "copy", "()Lcom/example/manyhands/manyhands/crowd/Totals;"⟩ : MethodName) prog_54_method_9_code 1 (some (.object "com/example/manyhands/manyhands/crowd/Totals")) :: Jvm.Cond.instanceMethod (⟨"com/example/manyhands/manyhands/crowd/Totals", "copy", "()Lcom/example/manyhands/manyhands/crowd/Totals;"⟩ : MethodName) :: ws) ({ frames := 2, cells := 1, slots := 5, locals := 35 } : Room)) (fun ag_ U_ => ag_ = #[(.ref a)] ∧ Z.Warmed39 U_.vm ∧ U_.heap = h0 ∧ ∃ cell : Cell, h0[a]? = some cell ∧ cell.enterable U_.cur) (fun _ _ _ _ _ => True) (fun _ U_ o_ V_ => ∃ v_ L_, o_ = .returned v_ ∧ (Q_rm4 Z a cn hv h0 n0) v_ V_.heap L_ ∧ FrameEnd U_ o_ V_ L_ ({ frames := 2, cells := 1, slots := 5, locals := 35 } : Room).cells ({ frames := 2, cells := 1, slots := 5, locals := 35 } : Room).slots) := by
  refine MetFree.of_bodySync (plainFor_of_name own_pn0) (hisS (List.mem_cons_self ..)) (fun _ s _ ⟨h1, _, h2, cl, h3, h4⟩ => ⟨a, cl, by rw [h1]; rfl, by rw [h2]; exact h3, h4⟩) ?_
  intro p e s m args below meth c a' cell s₁ Bd hml0 hP hK
  obtain ⟨rfl, hZ0, hh, -⟩ := hP
  cases Bd.receiver
  have hx := Bd.exec
  have hby : c.code = prog_54_method_9_code := Bd.bytes
  have hml : c.maxLocals = 1 := hml0
  have X0 : Stand p l e ({ frames := 2, cells := 1, slots := 5, locals := 35 } : Room) (s.setCell a (cell.withEntry s.cur)) m #[(.ref a)] below meth c s₁ [] 0 0 := Stand.of_bodySync Bd
  have hZ : Z.Warmed39 (s.setCell a (cell.withEntry s.cur)).vm := hZ0
  have hown : (s.setCell a (cell.withEntry s.cur)).vm.findClass "com/example/manyhands/manyhands/crowd/Totals" = some m.cls := (findClass_of_methodNamed Bd.named :)
  have M0 : Mon s.heap s₁.heap := by rw [Bd.state]; exact mon_set Bd.object _
  obtain ⟨hS, e0⟩ : ∃ z, s₁.heap = z := ⟨_, rfl⟩
  rw [hh, e0] at M0
  have ZS : n0 ≤ hS.size := by rw [M0.size]; exact Z0
  have BZ0 : s.heap.size ≤ hS.size := by rw [hh, M0.size]; exact Nat.le_refl _
  have N0 := Fr.nil n0
  have B0 := Bs.nil s.heap.size []
  refine Go.st (G := fun s₂ o_ => ∃ v_ L_, o_ = .returned v_ ∧ (Q_rm4 Z a cn hv h0 n0) v_ s₂.heap L_ ∧ FrameEnd s o_ s₂ L_ ({ frames := 2, cells := 1, slots := 5, locals := 35 } : Room).cells ({ frames := 2, cells := 1, slots := 5, locals := 35 } : Room).slots) (fun t kt => castTop (ef_rm4 m a) kt) ?_
  obtain ⟨E_a, ⟨zta, Fta⟩, ⟨zsa, Fsa⟩, ⟨zca, Fca⟩, Fna, Fha⟩ := id P
  show Go p e below _ (s₁.setTop (mkL a m 0 #[.val (.ref a)] []))
  obtain ⟨T1, h1, X1, e1, E1, A1, D1, U1, st1⟩ := newO X0 hx hZ hown (hw _ (List.mem_of_getElem? (i := 19) rfl)) (hw _ (List.mem_of_getElem? (i := 1) rfl)) (hw _ (List.mem_of_getElem? (i := 2) rfl)) e0 (g := (mkL a m 0 #[.val (.ref a)] [])) rfl (hb hby d4_0) (by decide) (by decide)
  obtain ⟨b1, g1⟩ : ∃ z, z = hS.size := ⟨_, rfl⟩
  rw [← g1] at A1 D1 U1 st1
  have f2 := (E_a.mon M0)
  have lt_a_b1 : a < b1 := Nat.lt_of_lt_of_eq f2.lt g1.symm
  have gn_b1 : n0 ≤ b1 := Nat.le_trans ZS (Nat.le_of_eq g1.symm)
  have Zs1 : n0 ≤ h1.size := Nat.le_trans ZS E1.1
  have kn_b1 : s.heap.size ≤ b1 := Nat.le_trans BZ0 (Nat.le_of_eq g1.symm)
  have BZ1 : s.heap.size ≤ h1.size := Nat.le_trans BZ0 E1.1
  refine Go.st st1 ?_
  have F1_tasks : Fld Z h1 b1 "com/example/manyhands/manyhands/crowd/Totals" "tasks" "J" (.long (0 : Int64)) := D1 (Or.inl (hw _ (List.mem_of_getElem? (i := 21) rfl))) (ty := .long) (by decide)
  have F1_assignments : Fld Z h1 b1 "com/example/manyhands/manyhands/crowd/Totals" "assignments" "J" (.long (0 : Int64)) := D1 (Or.inl (hw _ (List.mem_of_getElem? (i := 23) rfl))) (ty := .long) (by decide)
  have F1_cents : Fld Z h1 b1 "com/example/manyhands/manyhands/crowd/Totals" "cents" "J" (.long (0 : Int64)) := D1 (Or.inl (hw _ (List.mem_of_getElem? (i := 25) rfl))) (ty := .long) (by decide)
  have F1_counted : Fld Z h1 b1 "com/example/manyhands/manyhands/crowd/Totals" "counted" "J" (.long (0 : Int64)) := D1 (Or.inl (hw _ (List.mem_of_getElem? (i := 27) rfl))) (ty := .long) (by decide)
  have F1_held : Fld Z h1 b1 "com/example/manyhands/manyhands/crowd/Totals" "held" "Lcom/example/manyhands/manyhands/crowd/Totals$Held;" .null := D1 (Or.inl (hw _ (List.mem_of_getElem? (i := 42) rfl))) (ty := (.object "com/example/manyhands/manyhands/crowd/Totals$Held")) (by decide)
  show Go p e below _ (T1.setTop (mkL a m 3 #[.val (.ref a)] [(.ref b1)]))
  refine Go.st (fun _ kt => XS.dup X1.here hx rfl (hb hby d4_3) rfl rfl kt) ?_
  show Go p e below _ (T1.setTop (mkL a m 4 #[.val (.ref a)] [(.ref b1), (.ref b1)]))
  refine Go.st (fun _ kt => XS.aloadN X1.here hx rfl (hb hby d4_4) rfl rfl kt) ?_
  show Go p e below _ (T1.setTop (mkL a m 5 #[.val (.ref a)] [(.ref a), (.ref b1), (.ref b1)]))
  have f3 := ((Fta.mon M0).ext E1)
  obtain ⟨T4, X4, e4, st4⟩ := getF X1 hx hZ hown (host := "") (Or.inl (hw _ (List.mem_of_getElem? (i := 20) rfl))) Via.refl e1 f3 (g := (mkL a m 5 #[.val (.ref a)] [(.ref a), (.ref b1), (.ref b1)])) rfl rfl (hb hby d4_5)
  refine Go.st st4 ?_
  show Go p e below _ (T4.setTop (mkL a m 8 #[.val (.ref a)] [(.long zta), (.ref b1), (.ref b1)]))
  refine Go.st (fun _ kt => XS.aloadN X4.here hx rfl (hb hby d4_8) rfl rfl kt) ?_
  show Go p e below _ (T4.setTop (mkL a m 9 #[.val (.ref a)] [(.ref a), (.long zta), (.ref b1), (.ref b1)]))
  have f5 := ((Fsa.mon M0).ext E1)
  obtain ⟨T6, X6, e6, st6⟩ := getF X4 hx hZ hown (host := "") (Or.inl (hw _ (List.mem_of_getElem? (i := 22) rfl))) Via.refl e4 f5 (g := (mkL a m 9 #[.val (.ref a)] [(.ref a), (.long zta), (.ref b1), (.ref b1)])) rfl rfl (hb hby d4_9)
  refine Go.st st6 ?_
  show Go p e below _ (T6.setTop (mkL a m 12 #[.val (.ref a)] [(.long zsa), (.long zta), (.ref b1), (.ref b1)]))
  refine Go.st (fun _ kt => XS.aloadN X6.here hx rfl (hb hby d4_12) rfl rfl kt) ?_
  show Go p e below _ (T6.setTop (mkL a m 13 #[.val (.ref a)] [(.ref a), (.long zsa), (.long zta), (.ref b1), (.ref b1)]))
  have f7 := ((Fca.mon M0).ext E1)
  obtain ⟨T8, X8, e8, st8⟩ := getF X6 hx hZ hown (host := "") (Or.inl (hw _ (List.mem_of_getElem? (i := 24) rfl))) Via.refl e6 f7 (g := (mkL a m 13 #[.val (.ref a)] [(.ref a), (.long zsa), (.long zta), (.ref b1), (.ref b1)])) rfl rfl (hb hby d4_13)
  refine Go.st st8 ?_
  show Go p e below _ (T8.setTop (mkL a m 16 #[.val (.ref a)] [(.long zca), (.long zsa), (.long zta), (.ref b1), (.ref b1)]))
  refine Go.st (fun _ kt => XS.aloadN X8.here hx rfl (hb hby d4_16) rfl rfl kt) ?_
  show Go p e below _ (T8.setTop (mkL a m 17 #[.val (.ref a)] [(.ref a), (.long zca), (.long zsa), (.long zta), (.ref b1), (.ref b1)]))
  have f9 := ((Fna.mon M0).ext E1)
  obtain ⟨T10, X10, e10, st10⟩ := getF X8 hx hZ hown (host := "") (Or.inl (hw _ (List.mem_of_getElem? (i := 26) rfl))) Via.refl e8 f9 (g := (mkL a m 17 #[.val (.ref a)] [(.ref a), (.long zca), (.long zsa), (.long zta), (.ref b1), (.ref b1)])) rfl rfl (hb hby d4_17)
  refine Go.st st10 ?_
  show Go p e below _ (T10.setTop (mkL a m 20 #[.val (.ref a)] [(.long cn), (.long zca), (.long zsa), (.long zta), (.ref b1), (.ref b1)]))
  obtain ⟨_, _, ⟨T11, L11, k11, n11⟩, -, X11, ⟨Lc11, hQ11, l11, y11, z11⟩, st11⟩ := X10.specialBack hx (y := (⟨"com/example/manyhands/manyhands/crowd/Totals", "<init>", "(JJJJ)V"⟩ : MethodName)) rfl hown (mvT hZ (hw _ (List.mem_of_getElem? (i := 28) rfl))) (mvT hZ (hw _ (List.mem_of_getElem? (i := 29) rfl))) (mvT hZ (hw _ (List.mem_of_getElem? (i := 30) rfl))) (by decide) (backOf (W := 3) (rm5 l Z a0 hw [] b1 zta zsa zca cn h1 n0 Zs1 A1 F1_tasks F1_assignments F1_cents F1_counted gn_b1) hZ (hw _ (List.mem_of_getElem? (i := 30) rfl)) (hw _ (List.mem_of_getElem? (i := 2) rfl)) (by decide) (by decide)) (g := (mkL a m 20 #[.val (.ref a)] [(.long cn), (.long zca), (.long zsa), (.long zta), (.ref b1), (.ref b1)])) rfl (by rw [hml]; rfl) (Steps.refl _) (a := b1) (argsL := [(.long zta), (.long zsa), (.long zca), (.long cn)]) (rest := [(.ref b1)]) (lenOf own_pd3 rfl) rfl (by show 2 * 1 + _ ≤ _; exact Nat.le_of_eq rfl) (hb hby d4_20) (fun _ _ => ⟨rfl, e10, (by decide : 1 + 0 ≤ _), (by decide : 5 + 0 ≤ _)⟩)
  dsimp only [Pt.U, Pt.locs, Pt.cells, Pt.slots] at X11 l11 y11 z11 st11 hQ11
  subst l11 y11 z11
  obtain ⟨rfl, N11q, K11q, hB11, Fx11⟩ := hQ11
  have Zs11 : n0 ≤ T11.heap.size := Nat.le_trans Zs1 K11q.1
  have N11 := Fr.app N0 N11q
  have B11 : Bs s.heap.size [] _ := Bs.app B0 (Bs.up hB11 BZ1 (allS (Or.inr kn_b1) all0))
  have BZ11 : s.heap.size ≤ T11.heap.size := Nat.le_trans BZ1 K11q.1
  refine Go.tr st11 ?_
  show Go p e below _ (T11.setTop (mkL a m 23 #[.val (.ref a)] [(.ref b1)]))
  refine Go.syncA X11 hx Bd.object Bd.enterable Bd.synchronized Bd.returns rfl (hb hby d4_23) (Q := (Q_rm4 Z a cn hv h0 n0)) (by decide) (by decide) (ws := []) B11 ?_
  intro hV Mv Kv Uv
  rw [hh] at Kv Uv
  exact ⟨_, rfl, N11, Kv, Uv _ U_a, (by rw [← hh]; exact kn_b1), Fx11.mon Mv⟩
theorem d7_0 : decode prog_54_method_5_code 0 = .ok (.iload_n 1, 1) := by decide +kernel
theorem d7_1 : decode prog_54_method_5_code 1 = .ok (.i2l, 1) := by decide +kernel
theorem d7_2 : decode prog_54_method_5_code 2 = .ok (.iload_n 2, 1) := by decide +kernel
theorem d7_3 : decode prog_54_method_5_code 3 = .ok (.i2l, 1) := by decide +kernel
theorem d7_4 : decode prog_54_method_5_code 4 = .ok (.lmul, 1) := by decide +kernel
theorem d7_5 : decode prog_54_method_5_code 5 = .ok (.lstore_n 3, 1) := by decide +kernel
theorem d7_6 : decode prog_54_method_5_code 6 = .ok (.aload_n 0, 1) := by decide +kernel
theorem d7_7 : decode prog_54_method_5_code 7 = .ok (.getfield 25, 3) := by decide +kernel
theorem d7_10 : decode prog_54_method_5_code 10 = .ok (.ifnull 31, 3) := by decide +kernel
theorem d7_41 : decode prog_54_method_5_code 41 = .ok (.aload_n 0, 1) := by decide +kernel
theorem d7_42 : decode prog_54_method_5_code 42 = .ok (.iload_n 1, 1) := by decide +kernel
theorem d7_43 : decode prog_54_method_5_code 43 = .ok (.i2l, 1) := by decide +kernel
theorem d7_44 : decode prog_54_method_5_code 44 = .ok (.lload_n 3, 1) := by decide +kernel
theorem d7_45 : decode prog_54_method_5_code 45 = .ok (.invokevirtual 37, 3) := by decide +kernel
theorem d7_48 : decode prog_54_method_5_code 48 = .ok (.return_, 1) := by decide +kernel
def Q_rm7n (Z : State) (a : Addr) (i : Int32) (j : Int32) (cn : Int64) (h0 : Heap) (n0 : Nat) (v : Option Value) (h : Heap) (L : List Loc) : Prop := v = none ∧ Fr n0 L ∧ Keep h0 h [a] ∧ Unt h a ∧ TB Z h a (own_c1 i.toInt64 cn) .null
theorem ef_rm7n (m : MethodId) (a : Addr) (i : Int32) (j : Int32) : entryFrameSync m #[(.ref a), (.int i), (.int j)] 5 a = mkL a m 0 #[.val (.ref a), .val (.int i), .val (.int j), .unset, .unset] [] := by first | rfl | (simp [entryFrameSync, entryFrame, mkL, argsToLocals, Value.category]; done)
set_option maxRecDepth 65536 in
set_option maxHeartbeats 40000000 in
theorem rm7n (l : Launch) (Z : State) (a0 : Array Value) (hw : ∀ d ∈ tables_1, d.before a0 Z = true) (ws : List Jvm.Cond) (a : Addr) (i : Int32) (j : Int32) (cn : Int64) (h0 : Heap) (n0 : Nat) (Z0 : n0 ≤ h0.size) (P : TB Z h0 a cn .null) (U_a : Unt h0 a) (gn_a : n0 ≤ a) :
    MetFree l (⟨"com/example/manyhands/manyhands/crowd/Totals", "addAnswers", "(II)V"⟩ : MethodName) (head1 (Jvm.Cond.codeSync (⟨"com/example/manyhands/manyhands/crowd/Totals", "addAnswers", "(II)V"⟩ : MethodName) prog_54_method_5_code 5 none :: Jvm.Cond.instanceMethod (⟨"com/example/manyhands/manyhands/crowd/Totals", "addAnswers", "(II)V"⟩ : MethodName) :: ws) ({ frames := 1, cells := 0, slots := 0, locals := 18 } : Room)) (fun ag_ U_ => ag_ = #[(.ref a), (.int i), (.int j)] ∧ Z.Warmed39 U_.vm ∧ U_.heap = h0 ∧ ∃ cell : Cell, h0[a]? = some cell ∧ cell.enterable U_.cur) (fun _ _ _ _ _ => True) (fun _ U_ o_ V_ => ∃ v_ L_, o_ = .returned v_ ∧ (Q_rm7n Z a i j cn h0 n0) v_ V_.heap L_ ∧ FrameEnd U_ o_ V_ L_ ({ frames := 1, cells := 0, slots := 0, locals := 18 } : Room).cells ({ frames := 1, cells := 0, slots := 0, locals := 18 } : Room).slots) := by
  refine MetFree.of_bodySync (plainFor_of_name own_pn0) (hisS (List.mem_cons_self ..)) (fun _ s _ ⟨h1, _, h2, cl, h3, h4⟩ => ⟨a, cl, by rw [h1]; rfl, by rw [h2]; exact h3, h4⟩) ?_
  intro p e s m args below meth c a' cell s₁ Bd hml0 hP hK
  obtain ⟨rfl, hZ0, hh, -⟩ := hP
  cases Bd.receiver
  have hx := Bd.exec
  have hby : c.code = prog_54_method_5_code := Bd.bytes
  have hml : c.maxLocals = 5 := hml0
  have X0 : Stand p l e ({ frames := 1, cells := 0, slots := 0, locals := 18 } : Room) (s.setCell a (cell.withEntry s.cur)) m #[(.ref a), (.int i), (.int j)] below meth c s₁ [] 0 0 := Stand.of_bodySync Bd
  have hZ : Z.Warmed39 (s.setCell a (cell.withEntry s.cur)).vm := hZ0
  have hown : (s.setCell a (cell.withEntry s.cur)).vm.findClass "com/example/manyhands/manyhands/crowd/Totals" = some m.cls := (findClass_of_methodNamed Bd.named :)
  have M0 : Mon s.heap s₁.heap := by rw [Bd.state]; exact mon_set Bd.object _
  obtain ⟨hS, e0⟩ : ∃ z, s₁.heap = z := ⟨_, rfl⟩
  rw [hh, e0] at M0
  have ZS : n0 ≤ hS.size := by rw [M0.size]; exact Z0
  have BZ0 : s.heap.size ≤ hS.size := by rw [hh, M0.size]; exact Nat.le_refl _
  have N0 := Fr.nil n0
  have B0 := Bs.nil s.heap.size [a]
  refine Go.st (G := fun s₂ o_ => ∃ v_ L_, o_ = .returned v_ ∧ (Q_rm7n Z a i j cn h0 n0) v_ s₂.heap L_ ∧ FrameEnd s o_ s₂ L_ ({ frames := 1, cells := 0, slots := 0, locals := 18 } : Room).cells ({ frames := 1, cells := 0, slots := 0, locals := 18 } : Room).slots) (fun t kt => castTop (ef_rm7n m a i j) kt) ?_
  obtain ⟨E_a, ⟨zta, Fta⟩, ⟨zsa, Fsa⟩, ⟨zca, Fca⟩, Fna, Fha⟩ := id P
  show Go p e below _ (s₁.setTop (mkL a m 0 #[.val (.ref a), .val (.int i), .val (.int j), .unset, .unset] []))
  refine Go.st (fun _ kt => XS.iloadN X0.here hx rfl (hb hby d7_0) rfl kt) ?_
  show Go p e below _ (s₁.setTop (mkL a m 1 #[.val (.ref a), .val (.int i), .val (.int j), .unset, .unset] [(.int i)]))
  refine Go.st (fun _ kt => XS.i2l X0.here hx rfl (hb hby d7_1) rfl kt) ?_
  show Go p e below _ (s₁.setTop (mkL a m 2 #[.val (.ref a), .val (.int i), .val (.int j), .unset, .unset] [(.long (i.toInt64))]))
  refine Go.st (fun _ kt => XS.iloadN X0.here hx rfl (hb hby d7_2) rfl kt) ?_
  show Go p e below _ (s₁.setTop (mkL a m 3 #[.val (.ref a), .val (.int i), .val (.int j), .unset, .unset] [(.int j), (.long (i.toInt64))]))
  refine Go.st (fun _ kt => XS.i2l X0.here hx rfl (hb hby d7_3) rfl kt) ?_
  show Go p e below _ (s₁.setTop (mkL a m 4 #[.val (.ref a), .val (.int i), .val (.int j), .unset, .unset] [(.long (j.toInt64)), (.long (i.toInt64))]))
  refine Go.st (fun _ kt => XS.lmul X0.here hx rfl (hb hby d7_4) rfl kt) ?_
  show Go p e below _ (s₁.setTop (mkL a m 5 #[.val (.ref a), .val (.int i), .val (.int j), .unset, .unset] [(.long ((i.toInt64) * (j.toInt64)))]))
  refine Go.st (fun _ kt => XS.lstoreN X0.here hx rfl (hb hby d7_5) rfl (l' := #[.val (.ref a), .val (.int i), .val (.int j), .val (.long ((i.toInt64) * (j.toInt64))), .second]) rfl kt) ?_
  show Go p e below _ (s₁.setTop (mkL a m 6 #[.val (.ref a), .val (.int i), .val (.int j), .val (.long ((i.toInt64) * (j.toInt64))), .second] []))
  refine Go.st (fun _ kt => XS.aloadN X0.here hx rfl (hb hby d7_6) rfl rfl kt) ?_
  show Go p e below _ (s₁.setTop (mkL a m 7 #[.val (.ref a), .val (.int i), .val (.int j), .val (.long ((i.toInt64) * (j.toInt64))), .second] [(.ref a)]))
  have f1 := (Fha.mon M0)
  obtain ⟨T2, X2, e2, st2⟩ := getF X0 hx hZ hown (host := "") (Or.inl (hw _ (List.mem_of_getElem? (i := 41) rfl))) Via.refl e0 f1 (g := (mkL a m 7 #[.val (.ref a), .val (.int i), .val (.int j), .val (.long ((i.toInt64) * (j.toInt64))), .second] [(.ref a)])) rfl rfl (hb hby d7_7)
  refine Go.st st2 ?_
  show Go p e below _ (T2.setTop (mkL a m 10 #[.val (.ref a), .val (.int i), .val (.int j), .val (.long ((i.toInt64) * (j.toInt64))), .second] [.null]))
  refine Go.st (fun _ kt => XS.ifnullYes X2.here hx rfl (pc0 := 10) (pc' := 41) rfl (hb hby d7_10) rfl (by decide) (by decide) kt) ?_
  show Go p e below _ (T2.setTop (mkL a m 41 #[.val (.ref a), .val (.int i), .val (.int j), .val (.long ((i.toInt64) * (j.toInt64))), .second] []))
  refine Go.st (fun _ kt => XS.aloadN X2.here hx rfl (hb hby d7_41) rfl rfl kt) ?_
  show Go p e below _ (T2.setTop (mkL a m 42 #[.val (.ref a), .val (.int i), .val (.int j), .val (.long ((i.toInt64) * (j.toInt64))), .second] [(.ref a)]))
  refine Go.st (fun _ kt => XS.iloadN X2.here hx rfl (hb hby d7_42) rfl kt) ?_
  show Go p e below _ (T2.setTop (mkL a m 43 #[.val (.ref a), .val (.int i), .val (.int j), .val (.long ((i.toInt64) * (j.toInt64))), .second] [(.int i), (.ref a)]))
  refine Go.st (fun _ kt => XS.i2l X2.here hx rfl (hb hby d7_43) rfl kt) ?_
  show Go p e below _ (T2.setTop (mkL a m 44 #[.val (.ref a), .val (.int i), .val (.int j), .val (.long ((i.toInt64) * (j.toInt64))), .second] [(.long (i.toInt64)), (.ref a)]))
  refine Go.st (fun _ kt => XS.lloadN X2.here hx rfl (hb hby d7_44) rfl kt) ?_
  show Go p e below _ (T2.setTop (mkL a m 45 #[.val (.ref a), .val (.int i), .val (.int j), .val (.long ((i.toInt64) * (j.toInt64))), .second] [(.long ((i.toInt64) * (j.toInt64))), (.long (i.toInt64)), (.ref a)]))
  have f3 := (E_a.mon M0)
  have f4 := (Fta.mon M0)
  have f5 := (Fsa.mon M0)
  have f6 := (Fca.mon M0)
  have f7 := (Fna.mon M0)
  obtain ⟨cq8, q8, q8'⟩ := f3.cell
  obtain ⟨_, _, ⟨T8, L8, k8, n8⟩, -, X8, ⟨Lc8, hQ8, l8, y8, z8⟩, st8⟩ := X2.privateBack hx (y := (⟨"com/example/manyhands/manyhands/crowd/Totals", "add", "(JJ)V"⟩ : MethodName)) hown (mvT hZ (hw _ (List.mem_of_getElem? (i := 43) rfl))) (mvT hZ (hw _ (List.mem_of_getElem? (i := 44) rfl))) (own_self hZ (hw _ (List.mem_of_getElem? (i := 1) rfl)) (hw _ (List.mem_of_getElem? (i := 45) rfl)) (hw _ (List.mem_of_getElem? (i := 44) rfl)) (by decide)) (Cond.privateMethod_at (mvP hZ (hw _ (List.mem_of_getElem? (i := 45) rfl)) (args := #[]))) (mvT hZ (hw _ (List.mem_of_getElem? (i := 46) rfl))) (by decide) (backOf (W := 2) (rm8 l Z a0 hw [] a (i.toInt64) ((i.toInt64) * (j.toInt64)) cn .null hS n0 ZS ⟨f3, ⟨_, f4⟩, ⟨_, f5⟩, ⟨_, f6⟩, f7, f1⟩ gn_a) hZ (hw _ (List.mem_of_getElem? (i := 46) rfl)) (hw _ (List.mem_of_getElem? (i := 2) rfl)) (by decide) (by decide)) (g := (mkL a m 45 #[.val (.ref a), .val (.int i), .val (.int j), .val (.long ((i.toInt64) * (j.toInt64))), .second] [(.long ((i.toInt64) * (j.toInt64))), (.long (i.toInt64)), (.ref a)])) rfl (by rw [hml]; rfl) (Steps.refl _) (a := a) (by rw [e2]; exact q8) q8' (argsL := [(.long (i.toInt64)), (.long ((i.toInt64) * (j.toInt64)))]) (rest := []) (lenOf own_pd2 rfl) rfl (by show 2 * 1 + _ ≤ _; exact Nat.le_of_eq rfl) (hb hby d7_45) (fun _ _ => ⟨rfl, e2, (by decide : 0 + 0 ≤ _), (by decide : 0 + 0 ≤ _)⟩)
  dsimp only [Pt.U, Pt.locs, Pt.cells, Pt.slots] at X8 l8 y8 z8 st8 hQ8
  subst l8 y8 z8
  obtain ⟨rfl, N8q, K8q, hB8, hM8, P8⟩ := hQ8
  have Zs8 : n0 ≤ T8.heap.size := Nat.le_trans ZS K8q.1
  have N8 := Fr.app N0 N8q
  have B8 : Bs s.heap.size [a] _ := Bs.app B0 (Bs.up hB8 BZ0 (allS (Or.inl (List.mem_of_getElem? (i := 0) rfl)) all0))
  have BZ8 : s.heap.size ≤ T8.heap.size := Nat.le_trans BZ0 K8q.1
  obtain ⟨E_k8, ⟨ztk8, Ftk8⟩, ⟨zsk8, Fsk8⟩, ⟨zck8, Fck8⟩, Fnk8, Fhk8⟩ := id P8
  refine Go.tr st8 ?_
  show Go p e below _ (T8.setTop (mkL a m 48 #[.val (.ref a), .val (.int i), .val (.int j), .val (.long ((i.toInt64) * (j.toInt64))), .second] []))
  refine Go.syncV X8 hx Bd.object Bd.enterable Bd.synchronized Bd.returns (hb hby d7_48) (Q := (Q_rm7n Z a i j cn h0 n0)) (by decide) (by decide) (ws := [a]) B8 ?_
  intro hV Mv Kv Uv
  rw [hh] at Kv Uv
  exact ⟨rfl, N8, Kv, Uv _ U_a, ⟨E_k8.mon Mv, ⟨_, Ftk8.mon Mv⟩, ⟨_, Fsk8.mon Mv⟩, ⟨_, Fck8.mon Mv⟩, Fnk8.mon Mv, Fhk8.mon Mv⟩⟩
theorem d7_13 : decode prog_54_method_5_code 13 = .ok (.aload_n 0, 1) := by decide +kernel
theorem d7_14 : decode prog_54_method_5_code 14 = .ok (.getfield 25, 3) := by decide +kernel
theorem d7_17 : decode prog_54_method_5_code 17 = .ok (.dup, 1) := by decide +kernel
theorem d7_18 : decode prog_54_method_5_code 18 = .ok (.getfield 29, 3) := by decide +kernel
theorem d7_21 : decode prog_54_method_5_code 21 = .ok (.iload_n 1, 1) := by decide +kernel
theorem d7_22 : decode prog_54_method_5_code 22 = .ok (.i2l, 1) := by decide +kernel
theorem d7_23 : decode prog_54_method_5_code 23 = .ok (.ladd, 1) := by decide +kernel
theorem d7_24 : decode prog_54_method_5_code 24 = .ok (.putfield 29, 3) := by decide +kernel
theorem d7_27 : decode prog_54_method_5_code 27 = .ok (.aload_n 0, 1) := by decide +kernel
theorem d7_28 : decode prog_54_method_5_code 28 = .ok (.getfield 25, 3) := by decide +kernel
theorem d7_31 : decode prog_54_method_5_code 31 = .ok (.dup, 1) := by decide +kernel
theorem d7_32 : decode prog_54_method_5_code 32 = .ok (.getfield 34, 3) := by decide +kernel
theorem d7_35 : decode prog_54_method_5_code 35 = .ok (.lload_n 3, 1) := by decide +kernel
theorem d7_36 : decode prog_54_method_5_code 36 = .ok (.ladd, 1) := by decide +kernel
theorem d7_37 : decode prog_54_method_5_code 37 = .ok (.putfield 34, 3) := by decide +kernel
theorem d7_40 : decode prog_54_method_5_code 40 = .ok (.return_, 1) := by decide +kernel
def Q_rm7h (Z : State) (a : Addr) (i : Int32) (j : Int32) (b : Addr) (cn : Int64) (an : Int64) (h0 : Heap) (n0 : Nat) (v : Option Value) (h : Heap) (L : List Loc) : Prop := v = none ∧ Fr n0 L ∧ Keep h0 h [b] ∧ Unt h a ∧ HB Z h b a (an + i.toInt64)
theorem ef_rm7h (m : MethodId) (a : Addr) (i : Int32) (j : Int32) : entryFrameSync m #[(.ref a), (.int i), (.int j)] 5 a = mkL a m 0 #[.val (.ref a), .val (.int i), .val (.int j), .unset, .unset] [] := by first | rfl | (simp [entryFrameSync, entryFrame, mkL, argsToLocals, Value.category]; done)
set_option maxRecDepth 65536 in
set_option maxHeartbeats 40000000 in
theorem rm7h (l : Launch) (Z : State) (a0 : Array Value) (hw : ∀ d ∈ tables_1, d.before a0 Z = true) (ws : List Jvm.Cond) (a : Addr) (i : Int32) (j : Int32) (b : Addr) (cn : Int64) (an : Int64) (h0 : Heap) (n0 : Nat) (Z0 : n0 ≤ h0.size) (P : TB Z h0 a cn (.ref b)) (PH : HB Z h0 b a an) (U_a : Unt h0 a) (gn_a : n0 ≤ a) (gn_b : n0 ≤ b) (nab : a ≠ b) :
    MetFree l (⟨"com/example/manyhands/manyhands/crowd/Totals", "addAnswers", "(II)V"⟩ : MethodName) (head1 (Jvm.Cond.codeSync (⟨"com/example/manyhands/manyhands/crowd/Totals", "addAnswers", "(II)V"⟩ : MethodName) prog_54_method_5_code 5 none :: Jvm.Cond.instanceMethod (⟨"com/example/manyhands/manyhands/crowd/Totals", "addAnswers", "(II)V"⟩ : MethodName) :: ws) ({ frames := 0, cells := 0, slots := 0, locals := 0 } : Room)) (fun ag_ U_ => ag_ = #[(.ref a), (.int i), (.int j)] ∧ Z.Warmed39 U_.vm ∧ U_.heap = h0 ∧ ∃ cell : Cell, h0[a]? = some cell ∧ cell.enterable U_.cur) (fun _ _ _ _ _ => True) (fun _ U_ o_ V_ => ∃ v_ L_, o_ = .returned v_ ∧ (Q_rm7h Z a i j b cn an h0 n0) v_ V_.heap L_ ∧ FrameEnd U_ o_ V_ L_ ({ frames := 0, cells := 0, slots := 0, locals := 0 } : Room).cells ({ frames := 0, cells := 0, slots := 0, locals := 0 } : Room).slots) := by
  refine MetFree.of_bodySync (plainFor_of_name own_pn0) (hisS (List.mem_cons_self ..)) (fun _ s _ ⟨h1, _, h2, cl, h3, h4⟩ => ⟨a, cl, by rw [h1]; rfl, by rw [h2]; exact h3, h4⟩) ?_
  intro p e s m args below meth c a' cell s₁ Bd hml0 hP hK
  obtain ⟨rfl, hZ0, hh, -⟩ := hP
  cases Bd.receiver
  have hx := Bd.exec
  have hby : c.code = prog_54_method_5_code := Bd.bytes
  have hml : c.maxLocals = 5 := hml0
  have X0 : Stand p l e ({ frames := 0, cells := 0, slots := 0, locals := 0 } : Room) (s.setCell a (cell.withEntry s.cur)) m #[(.ref a), (.int i), (.int j)] below meth c s₁ [] 0 0 := Stand.of_bodySync Bd
  have hZ : Z.Warmed39 (s.setCell a (cell.withEntry s.cur)).vm := hZ0
  have hown : (s.setCell a (cell.withEntry s.cur)).vm.findClass "com/example/manyhands/manyhands/crowd/Totals" = some m.cls := (findClass_of_methodNamed Bd.named :)
  have M0 : Mon s.heap s₁.heap := by rw [Bd.state]; exact mon_set Bd.object _
  obtain ⟨hS, e0⟩ : ∃ z, s₁.heap = z := ⟨_, rfl⟩
  rw [hh, e0] at M0
  have ZS : n0 ≤ hS.size := by rw [M0.size]; exact Z0
  have BZ0 : s.heap.size ≤ hS.size := by rw [hh, M0.size]; exact Nat.le_refl _
  have N0 := Fr.nil n0
  have B0 := Bs.nil s.heap.size [b]
  refine Go.st (G := fun s₂ o_ => ∃ v_ L_, o_ = .returned v_ ∧ (Q_rm7h Z a i j b cn an h0 n0) v_ s₂.heap L_ ∧ FrameEnd s o_ s₂ L_ ({ frames := 0, cells := 0, slots := 0, locals := 0 } : Room).cells ({ frames := 0, cells := 0, slots := 0, locals := 0 } : Room).slots) (fun t kt => castTop (ef_rm7h m a i j) kt) ?_
  obtain ⟨E_a, ⟨zta, Fta⟩, ⟨zsa, Fsa⟩, ⟨zca, Fca⟩, Fna, Fha⟩ := id P
  obtain ⟨E_b, F0b, Fab, ⟨zob, Fob⟩⟩ := id PH
  show Go p e below _ (s₁.setTop (mkL a m 0 #[.val (.ref a), .val (.int i), .val (.int j), .unset, .unset] []))
  refine Go.st (fun _ kt => XS.iloadN X0.here hx rfl (hb hby d7_0) rfl kt) ?_
  show Go p e below _ (s₁.setTop (mkL a m 1 #[.val (.ref a), .val (.int i), .val (.int j), .unset, .unset] [(.int i)]))
  refine Go.st (fun _ kt => XS.i2l X0.here hx rfl (hb hby d7_1) rfl kt) ?_
  show Go p e below _ (s₁.setTop (mkL a m 2 #[.val (.ref a), .val (.int i), .val (.int j), .unset, .unset] [(.long (i.toInt64))]))
  refine Go.st (fun _ kt => XS.iloadN X0.here hx rfl (hb hby d7_2) rfl kt) ?_
  show Go p e below _ (s₁.setTop (mkL a m 3 #[.val (.ref a), .val (.int i), .val (.int j), .unset, .unset] [(.int j), (.long (i.toInt64))]))
  refine Go.st (fun _ kt => XS.i2l X0.here hx rfl (hb hby d7_3) rfl kt) ?_
  show Go p e below _ (s₁.setTop (mkL a m 4 #[.val (.ref a), .val (.int i), .val (.int j), .unset, .unset] [(.long (j.toInt64)), (.long (i.toInt64))]))
  refine Go.st (fun _ kt => XS.lmul X0.here hx rfl (hb hby d7_4) rfl kt) ?_
  show Go p e below _ (s₁.setTop (mkL a m 5 #[.val (.ref a), .val (.int i), .val (.int j), .unset, .unset] [(.long ((i.toInt64) * (j.toInt64)))]))
  refine Go.st (fun _ kt => XS.lstoreN X0.here hx rfl (hb hby d7_5) rfl (l' := #[.val (.ref a), .val (.int i), .val (.int j), .val (.long ((i.toInt64) * (j.toInt64))), .second]) rfl kt) ?_
  show Go p e below _ (s₁.setTop (mkL a m 6 #[.val (.ref a), .val (.int i), .val (.int j), .val (.long ((i.toInt64) * (j.toInt64))), .second] []))
  refine Go.st (fun _ kt => XS.aloadN X0.here hx rfl (hb hby d7_6) rfl rfl kt) ?_
  show Go p e below _ (s₁.setTop (mkL a m 7 #[.val (.ref a), .val (.int i), .val (.int j), .val (.long ((i.toInt64) * (j.toInt64))), .second] [(.ref a)]))
  have f1 := (Fha.mon M0)
  obtain ⟨T2, X2, e2, st2⟩ := getF X0 hx hZ hown (host := "") (Or.inl (hw _ (List.mem_of_getElem? (i := 41) rfl))) Via.refl e0 f1 (g := (mkL a m 7 #[.val (.ref a), .val (.int i), .val (.int j), .val (.long ((i.toInt64) * (j.toInt64))), .second] [(.ref a)])) rfl rfl (hb hby d7_7)
  refine Go.st st2 ?_
  show Go p e below _ (T2.setTop (mkL a m 10 #[.val (.ref a), .val (.int i), .val (.int j), .val (.long ((i.toInt64) * (j.toInt64))), .second] [(.ref b)]))
  refine Go.st (fun _ kt => XS.ifnullNo X2.here hx rfl (hb hby d7_10) rfl kt) ?_
  show Go p e below _ (T2.setTop (mkL a m 13 #[.val (.ref a), .val (.int i), .val (.int j), .val (.long ((i.toInt64) * (j.toInt64))), .second] []))
  refine Go.st (fun _ kt => XS.aloadN X2.here hx rfl (hb hby d7_13) rfl rfl kt) ?_
  show Go p e below _ (T2.setTop (mkL a m 14 #[.val (.ref a), .val (.int i), .val (.int j), .val (.long ((i.toInt64) * (j.toInt64))), .second] [(.ref a)]))
  obtain ⟨T3, X3, e3, st3⟩ := getF X2 hx hZ hown (host := "") (Or.inl (hw _ (List.mem_of_getElem? (i := 41) rfl))) Via.refl e2 f1 (g := (mkL a m 14 #[.val (.ref a), .val (.int i), .val (.int j), .val (.long ((i.toInt64) * (j.toInt64))), .second] [(.ref a)])) rfl rfl (hb hby d7_14)
  refine Go.st st3 ?_
  show Go p e below _ (T3.setTop (mkL a m 17 #[.val (.ref a), .val (.int i), .val (.int j), .val (.long ((i.toInt64) * (j.toInt64))), .second] [(.ref b)]))
  refine Go.st (fun _ kt => XS.dup X3.here hx rfl (hb hby d7_17) rfl rfl kt) ?_
  show Go p e below _ (T3.setTop (mkL a m 18 #[.val (.ref a), .val (.int i), .val (.int j), .val (.long ((i.toInt64) * (j.toInt64))), .second] [(.ref b), (.ref b)]))
  have f4 := (Fab.mon M0)
  refine Go.st (getFR X3 hx hZ hown (hw _ (List.mem_of_getElem? (i := 66) rfl)) e3 f4 (g := (mkL a m 18 #[.val (.ref a), .val (.int i), .val (.int j), .val (.long ((i.toInt64) * (j.toInt64))), .second] [(.ref b), (.ref b)])) rfl rfl (hb hby d7_18)) ?_
  show Go p e below _ (T3.setTop (mkL a m 21 #[.val (.ref a), .val (.int i), .val (.int j), .val (.long ((i.toInt64) * (j.toInt64))), .second] [(.long an), (.ref b)]))
  refine Go.st (fun _ kt => XS.iloadN X3.here hx rfl (hb hby d7_21) rfl kt) ?_
  show Go p e below _ (T3.setTop (mkL a m 22 #[.val (.ref a), .val (.int i), .val (.int j), .val (.long ((i.toInt64) * (j.toInt64))), .second] [(.int i), (.long an), (.ref b)]))
  refine Go.st (fun _ kt => XS.i2l X3.here hx rfl (hb hby d7_22) rfl kt) ?_
  show Go p e below _ (T3.setTop (mkL a m 23 #[.val (.ref a), .val (.int i), .val (.int j), .val (.long ((i.toInt64) * (j.toInt64))), .second] [(.long (i.toInt64)), (.long an), (.ref b)]))
  refine Go.st (fun _ kt => XS.ladd X3.here hx rfl (hb hby d7_23) rfl kt) ?_
  show Go p e below _ (T3.setTop (mkL a m 24 #[.val (.ref a), .val (.int i), .val (.int j), .val (.long ((i.toInt64) * (j.toInt64))), .second] [(.long (an + (i.toInt64))), (.ref b)]))
  have f5 := (E_b.mon M0)
  obtain ⟨T6, h6, X6, e6, W6, st6⟩ := putFR X3 hx hZ hown (hw _ (List.mem_of_getElem? (i := 66) rfl)) e3 f4 f5 (hw _ (List.mem_of_getElem? (i := 67) rfl)) (hw _ (List.mem_of_getElem? (i := 58) rfl)) (ty := .long) (by decide) rfl rfl (g := (mkL a m 24 #[.val (.ref a), .val (.int i), .val (.int j), .val (.long ((i.toInt64) * (j.toInt64))), .second] [(.long (an + (i.toInt64))), (.ref b)])) rfl rfl (hb hby d7_24)
  refine Go.st st6 ?_
  have Fw6 := f4.same W6
  have Zs6 : n0 ≤ h6.size := Nat.le_trans ZS (Nat.le_of_eq W6.size.symm)
  have N6 := Fr.snoc X6 N0 gn_b
  have B6 : Bs s.heap.size [b] _ := Bs.snoc X6 B0 (Or.inl (List.mem_of_getElem? (i := 0) rfl))
  have BZ6 : s.heap.size ≤ h6.size := Nat.le_trans BZ0 (Nat.le_of_eq W6.size.symm)
  show Go p e below _ (T6.setTop (mkL a m 27 #[.val (.ref a), .val (.int i), .val (.int j), .val (.long ((i.toInt64) * (j.toInt64))), .second] []))
  refine Go.st (fun _ kt => XS.aloadN X6.here hx rfl (hb hby d7_27) rfl rfl kt) ?_
  show Go p e below _ (T6.setTop (mkL a m 28 #[.val (.ref a), .val (.int i), .val (.int j), .val (.long ((i.toInt64) * (j.toInt64))), .second] [(.ref a)]))
  have f7 := (f1.other W6 (Or.inl nab))
  obtain ⟨T8, X8, e8, st8⟩ := getF X6 hx hZ hown (host := "") (Or.inl (hw _ (List.mem_of_getElem? (i := 41) rfl))) Via.refl e6 f7 (g := (mkL a m 28 #[.val (.ref a), .val (.int i), .val (.int j), .val (.long ((i.toInt64) * (j.toInt64))), .second] [(.ref a)])) rfl rfl (hb hby d7_28)
  refine Go.st st8 ?_
  show Go p e below _ (T8.setTop (mkL a m 31 #[.val (.ref a), .val (.int i), .val (.int j), .val (.long ((i.toInt64) * (j.toInt64))), .second] [(.ref b)]))
  refine Go.st (fun _ kt => XS.dup X8.here hx rfl (hb hby d7_31) rfl rfl kt) ?_
  show Go p e below _ (T8.setTop (mkL a m 32 #[.val (.ref a), .val (.int i), .val (.int j), .val (.long ((i.toInt64) * (j.toInt64))), .second] [(.ref b), (.ref b)]))
  have f9 := ((Fob.mon M0).other W6 (Or.inr (slot_ne (Or.inl (hw _ (List.mem_of_getElem? (i := 69) rfl))) (Or.inl (hw _ (List.mem_of_getElem? (i := 67) rfl))) (by decide) (t := .long) (t' := .long) (by decide) (by decide))))
  refine Go.st (getFR X8 hx hZ hown (hw _ (List.mem_of_getElem? (i := 68) rfl)) e8 f9 (g := (mkL a m 32 #[.val (.ref a), .val (.int i), .val (.int j), .val (.long ((i.toInt64) * (j.toInt64))), .second] [(.ref b), (.ref b)])) rfl rfl (hb hby d7_32)) ?_
  show Go p e below _ (T8.setTop (mkL a m 35 #[.val (.ref a), .val (.int i), .val (.int j), .val (.long ((i.toInt64) * (j.toInt64))), .second] [(.long zob), (.ref b)]))
  refine Go.st (fun _ kt => XS.lloadN X8.here hx rfl (hb hby d7_35) rfl kt) ?_
  show Go p e below _ (T8.setTop (mkL a m 36 #[.val (.ref a), .val (.int i), .val (.int j), .val (.long ((i.toInt64) * (j.toInt64))), .second] [(.long ((i.toInt64) * (j.toInt64))), (.long zob), (.ref b)]))
  refine Go.st (fun _ kt => XS.ladd X8.here hx rfl (hb hby d7_36) rfl kt) ?_
  show Go p e below _ (T8.setTop (mkL a m 37 #[.val (.ref a), .val (.int i), .val (.int j), .val (.long ((i.toInt64) * (j.toInt64))), .second] [(.long (zob + ((i.toInt64) * (j.toInt64)))), (.ref b)]))
  have f10 := (f5.wr W6)
  obtain ⟨T11, h11, X11, e11, W11, st11⟩ := putFR X8 hx hZ hown (hw _ (List.mem_of_getElem? (i := 68) rfl)) e8 f9 f10 (hw _ (List.mem_of_getElem? (i := 69) rfl)) (hw _ (List.mem_of_getElem? (i := 58) rfl)) (ty := .long) (by decide) rfl rfl (g := (mkL a m 37 #[.val (.ref a), .val (.int i), .val (.int j), .val (.long ((i.toInt64) * (j.toInt64))), .second] [(.long (zob + ((i.toInt64) * (j.toInt64)))), (.ref b)])) rfl rfl (hb hby d7_37)
  refine Go.st st11 ?_
  have Fw11 := f9.same W11
  have Zs11 : n0 ≤ h11.size := Nat.le_trans Zs6 (Nat.le_of_eq W11.size.symm)
  have N11 := Fr.snoc X11 N6 gn_b
  have B11 : Bs s.heap.size [b] _ := Bs.snoc X11 B6 (Or.inl (List.mem_of_getElem? (i := 0) rfl))
  have BZ11 : s.heap.size ≤ h11.size := Nat.le_trans BZ6 (Nat.le_of_eq W11.size.symm)
  show Go p e below _ (T11.setTop (mkL a m 40 #[.val (.ref a), .val (.int i), .val (.int j), .val (.long ((i.toInt64) * (j.toInt64))), .second] []))
  refine Go.syncV X11 hx Bd.object Bd.enterable Bd.synchronized Bd.returns (hb hby d7_40) (Q := (Q_rm7h Z a i j b cn an h0 n0)) (by decide) (by decide) (ws := [b]) B11 ?_
  intro hV Mv Kv Uv
  rw [hh] at Kv Uv
  rw [e11] at Mv
  have f12 := (f10.wr W11)
  have f13 := (((F0b.mon M0).other W6 (Or.inr (slot_ne (Or.inr (hw _ (List.mem_of_getElem? (i := 64) rfl))) (Or.inl (hw _ (List.mem_of_getElem? (i := 67) rfl))) (by decide) (t := (.object "com/example/manyhands/manyhands/crowd/Totals")) (t' := .long) (by decide) (by decide)))).other W11 (Or.inr (slot_ne (Or.inr (hw _ (List.mem_of_getElem? (i := 64) rfl))) (Or.inl (hw _ (List.mem_of_getElem? (i := 69) rfl))) (by decide) (t := (.object "com/example/manyhands/manyhands/crowd/Totals")) (t' := .long) (by decide) (by decide))))
  have f14 := (Fw6.other W11 (Or.inr (slot_ne (Or.inl (hw _ (List.mem_of_getElem? (i := 67) rfl))) (Or.inl (hw _ (List.mem_of_getElem? (i := 69) rfl))) (by decide) (t := .long) (t' := .long) (by decide) (by decide))))
  exact ⟨rfl, N11, Kv, Uv _ U_a, ⟨f12.mon Mv, f13.mon Mv, f14.mon Mv, ⟨_, Fw11.mon Mv⟩⟩⟩
theorem own_pd4 : parseMethodDescriptor "(Lcom/example/manyhands/manyhands/crowd/Totals;)V" = some ⟨[(.object "com/example/manyhands/manyhands/crowd/Totals")], none⟩ := by decide +kernel
theorem d10_0 : decode prog_54_method_8_code 0 = .ok (.aload_n 0, 1) := by decide +kernel
theorem d10_1 : decode prog_54_method_8_code 1 = .ok (.getfield 25, 3) := by decide +kernel
theorem d10_4 : decode prog_54_method_8_code 4 = .ok (.ifnull 13, 3) := by decide +kernel
theorem d10_17 : decode prog_54_method_8_code 17 = .ok (.aload_n 0, 1) := by decide +kernel
theorem d10_18 : decode prog_54_method_8_code 18 = .ok (.new 30, 3) := by decide +kernel
theorem d10_21 : decode prog_54_method_8_code 21 = .ok (.dup, 1) := by decide +kernel
theorem d10_22 : decode prog_54_method_8_code 22 = .ok (.aload_n 0, 1) := by decide +kernel
theorem d10_23 : decode prog_54_method_8_code 23 = .ok (.invokespecial 48, 3) := by decide +kernel
theorem d10_26 : decode prog_54_method_8_code 26 = .ok (.putfield 25, 3) := by decide +kernel
theorem d10_29 : decode prog_54_method_8_code 29 = .ok (.aload_n 0, 1) := by decide +kernel
theorem d10_30 : decode prog_54_method_8_code 30 = .ok (.getfield 25, 3) := by decide +kernel
theorem d10_33 : decode prog_54_method_8_code 33 = .ok (.areturn, 1) := by decide +kernel
def Q_rm10 (Z : State) (a : Addr) (cn : Int64) (h0 : Heap) (n0 : Nat) (v : Option Value) (h : Heap) (L : List Loc) : Prop := ∃ b, v = some (.ref b) ∧ Fr n0 L ∧ Keep h0 h [a] ∧ Unt h a ∧ h0.size ≤ b ∧ TB Z h a cn (.ref b) ∧ HB Z h b a (0 : Int64)
theorem ef_rm10 (m : MethodId) (a : Addr) : entryFrameSync m #[(.ref a)] 1 a = mkL a m 0 #[.val (.ref a)] [] := by first | rfl | (simp [entryFrameSync, entryFrame, mkL, argsToLocals, Value.category]; done)
set_option maxRecDepth 65536 in
set_option maxHeartbeats 40000000 in
theorem rm10 (l : Launch) (Z : State) (a0 : Array Value) (hw : ∀ d ∈ tables_1, d.before a0 Z = true) (ws : List Jvm.Cond) (a : Addr) (cn : Int64) (h0 : Heap) (n0 : Nat) (Z0 : n0 ≤ h0.size) (P : TB Z h0 a cn .null) (U_a : Unt h0 a) (gn_a : n0 ≤ a) :
    MetFree l (⟨"com/example/manyhands/manyhands/crowd/Totals", "hold", "()Lcom/example/manyhands/manyhands/crowd/Totals$Held;"⟩ : MethodName) (head1 (Jvm.Cond.codeSync (⟨"com/example/manyhands/manyhands/crowd/Totals", "hold", "()Lcom/example/manyhands/manyhands/crowd/Totals$Held;"⟩ : MethodName) prog_54_method_8_code 1 (some (.object "com/example/manyhands/manyhands/crowd/Totals$Held")) :: Jvm.Cond.instanceMethod (⟨"com/example/manyhands/manyhands/crowd/Totals", "hold", "()Lcom/example/manyhands/manyhands/crowd/Totals$Held;"⟩ : MethodName) :: ws) ({ frames := 2, cells := 1, slots := 3, locals := 29 } : Room)) (fun ag_ U_ => ag_ = #[(.ref a)] ∧ Z.Warmed39 U_.vm ∧ U_.heap = h0 ∧ ∃ cell : Cell, h0[a]? = some cell ∧ cell.enterable U_.cur) (fun _ _ _ _ _ => True) (fun _ U_ o_ V_ => ∃ v_ L_, o_ = .returned v_ ∧ (Q_rm10 Z a cn h0 n0) v_ V_.heap L_ ∧ FrameEnd U_ o_ V_ L_ ({ frames := 2, cells := 1, slots := 3, locals := 29 } : Room).cells ({ frames := 2, cells := 1, slots := 3, locals := 29 } : Room).slots) := by
  refine MetFree.of_bodySync (plainFor_of_name own_pn0) (hisS (List.mem_cons_self ..)) (fun _ s _ ⟨h1, _, h2, cl, h3, h4⟩ => ⟨a, cl, by rw [h1]; rfl, by rw [h2]; exact h3, h4⟩) ?_
  intro p e s m args below meth c a' cell s₁ Bd hml0 hP hK
  obtain ⟨rfl, hZ0, hh, -⟩ := hP
  cases Bd.receiver
  have hx := Bd.exec
  have hby : c.code = prog_54_method_8_code := Bd.bytes
  have hml : c.maxLocals = 1 := hml0
  have X0 : Stand p l e ({ frames := 2, cells := 1, slots := 3, locals := 29 } : Room) (s.setCell a (cell.withEntry s.cur)) m #[(.ref a)] below meth c s₁ [] 0 0 := Stand.of_bodySync Bd
  have hZ : Z.Warmed39 (s.setCell a (cell.withEntry s.cur)).vm := hZ0
  have hown : (s.setCell a (cell.withEntry s.cur)).vm.findClass "com/example/manyhands/manyhands/crowd/Totals" = some m.cls := (findClass_of_methodNamed Bd.named :)
  have M0 : Mon s.heap s₁.heap := by rw [Bd.state]; exact mon_set Bd.object _
  obtain ⟨hS, e0⟩ : ∃ z, s₁.heap = z := ⟨_, rfl⟩
  rw [hh, e0] at M0
  have ZS : n0 ≤ hS.size := by rw [M0.size]; exact Z0
  have BZ0 : s.heap.size ≤ hS.size := by rw [hh, M0.size]; exact Nat.le_refl _
  have N0 := Fr.nil n0
  have B0 := Bs.nil s.heap.size [a]
  refine Go.st (G := fun s₂ o_ => ∃ v_ L_, o_ = .returned v_ ∧ (Q_rm10 Z a cn h0 n0) v_ s₂.heap L_ ∧ FrameEnd s o_ s₂ L_ ({ frames := 2, cells := 1, slots := 3, locals := 29 } : Room).cells ({ frames := 2, cells := 1, slots := 3, locals := 29 } : Room).slots) (fun t kt => castTop (ef_rm10 m a) kt) ?_
  obtain ⟨E_a, ⟨zta, Fta⟩, ⟨zsa, Fsa⟩, ⟨zca, Fca⟩, Fna, Fha⟩ := id P
  show Go p e below _ (s₁.setTop (mkL a m 0 #[.val (.ref a)] []))
  refine Go.st (fun _ kt => XS.aloadN X0.here hx rfl (hb hby d10_0) rfl rfl kt) ?_
  show Go p e below _ (s₁.setTop (mkL a m 1 #[.val (.ref a)] [(.ref a)]))
  have f1 := (Fha.mon M0)
  obtain ⟨T2, X2, e2, st2⟩ := getF X0 hx hZ hown (host := "") (Or.inl (hw _ (List.mem_of_getElem? (i := 41) rfl))) Via.refl e0 f1 (g := (mkL a m 1 #[.val (.ref a)] [(.ref a)])) rfl rfl (hb hby d10_1)
  refine Go.st st2 ?_
  show Go p e below _ (T2.setTop (mkL a m 4 #[.val (.ref a)] [.null]))
  refine Go.st (fun _ kt => XS.ifnullYes X2.here hx rfl (pc0 := 4) (pc' := 17) rfl (hb hby d10_4) rfl (by decide) (by decide) kt) ?_
  show Go p e below _ (T2.setTop (mkL a m 17 #[.val (.ref a)] []))
  refine Go.st (fun _ kt => XS.aloadN X2.here hx rfl (hb hby d10_17) rfl rfl kt) ?_
  show Go p e below _ (T2.setTop (mkL a m 18 #[.val (.ref a)] [(.ref a)]))
  obtain ⟨T3, h3, X3, e3, E3, A3, D3, U3, st3⟩ := newO X2 hx hZ hown (hw _ (List.mem_of_getElem? (i := 57) rfl)) (hw _ (List.mem_of_getElem? (i := 58) rfl)) (hw _ (List.mem_of_getElem? (i := 59) rfl)) e2 (g := (mkL a m 18 #[.val (.ref a)] [(.ref a)])) rfl (hb hby d10_18) (by decide) (by decide)
  obtain ⟨b3, g3⟩ : ∃ z, z = hS.size := ⟨_, rfl⟩
  rw [← g3] at A3 D3 U3 st3
  have f4 := (E_a.mon M0)
  have lt_a_b3 : a < b3 := Nat.lt_of_lt_of_eq f4.lt g3.symm
  have gn_b3 : n0 ≤ b3 := Nat.le_trans ZS (Nat.le_of_eq g3.symm)
  have Zs3 : n0 ≤ h3.size := Nat.le_trans ZS E3.1
  have kn_b3 : s.heap.size ≤ b3 := Nat.le_trans BZ0 (Nat.le_of_eq g3.symm)
  have BZ3 : s.heap.size ≤ h3.size := Nat.le_trans BZ0 E3.1
  refine Go.st st3 ?_
  have F3_this_0 : Fld Z h3 b3 "com/example/manyhands/manyhands/crowd/Totals$Held" "this$0" "Lcom/example/manyhands/manyhands/crowd/Totals;" .null := D3 (Or.inr (hw _ (List.mem_of_getElem? (i := 64) rfl))) (ty := (.object "com/example/manyhands/manyhands/crowd/Totals")) (by decide)
  have F3_answers : Fld Z h3 b3 "com/example/manyhands/manyhands/crowd/Totals$Held" "answers" "J" (.long (0 : Int64)) := D3 (Or.inl (hw _ (List.mem_of_getElem? (i := 67) rfl))) (ty := .long) (by decide)
  have F3_cost : Fld Z h3 b3 "com/example/manyhands/manyhands/crowd/Totals$Held" "cost" "J" (.long (0 : Int64)) := D3 (Or.inl (hw _ (List.mem_of_getElem? (i := 69) rfl))) (ty := .long) (by decide)
  show Go p e below _ (T3.setTop (mkL a m 21 #[.val (.ref a)] [(.ref b3), (.ref a)]))
  refine Go.st (fun _ kt => XS.dup X3.here hx rfl (hb hby d10_21) rfl rfl kt) ?_
  show Go p e below _ (T3.setTop (mkL a m 22 #[.val (.ref a)] [(.ref b3), (.ref b3), (.ref a)]))
  refine Go.st (fun _ kt => XS.aloadN X3.here hx rfl (hb hby d10_22) rfl rfl kt) ?_
  show Go p e below _ (T3.setTop (mkL a m 23 #[.val (.ref a)] [(.ref a), (.ref b3), (.ref b3), (.ref a)]))
  obtain ⟨_, _, ⟨T5, L5, k5, n5⟩, -, X5, ⟨Lc5, hQ5, l5, y5, z5⟩, st5⟩ := own_specialRef X3 hx hZ (y := (⟨"com/example/manyhands/manyhands/crowd/Totals$Held", "<init>", "(Lcom/example/manyhands/manyhands/crowd/Totals;)V"⟩ : MethodName)) rfl hown (hw _ (List.mem_of_getElem? (i := 60) rfl)) (mvT hZ (hw _ (List.mem_of_getElem? (i := 61) rfl))) (mvT hZ (hw _ (List.mem_of_getElem? (i := 62) rfl))) (by decide) (backOf (W := 4) (rm11 l Z a0 hw [] b3 a h3 n0 Zs3 A3 F3_this_0 F3_answers F3_cost gn_b3) hZ (hw _ (List.mem_of_getElem? (i := 62) rfl)) (hw _ (List.mem_of_getElem? (i := 59) rfl)) (by decide) (by decide)) (g := (mkL a m 23 #[.val (.ref a)] [(.ref a), (.ref b3), (.ref b3), (.ref a)])) rfl (by rw [hml]; rfl) (Steps.refl _) (a := b3) (argsL := [(.ref a)]) (rest := [(.ref b3), (.ref a)]) (lenOf own_pd4 rfl) rfl (by show 2 * 1 + _ ≤ _; exact Nat.le_of_eq rfl) (hb hby d10_23) (fun _ _ => ⟨rfl, e3, (by decide : 1 + 0 ≤ _), (by decide : 3 + 0 ≤ _)⟩)
  dsimp only [Pt.U, Pt.locs, Pt.cells, Pt.slots] at X5 l5 y5 z5 st5 hQ5
  subst l5 y5 z5
  obtain ⟨rfl, N5q, K5q, hB5, P5⟩ := hQ5
  have Zs5 : n0 ≤ T5.heap.size := Nat.le_trans Zs3 K5q.1
  have N5 := Fr.app N0 N5q
  have B5 : Bs s.heap.size [a] _ := Bs.app B0 (Bs.up hB5 BZ3 (allS (Or.inr kn_b3) all0))
  have BZ5 : s.heap.size ≤ T5.heap.size := Nat.le_trans BZ3 K5q.1
  obtain ⟨E_k5, F0k5, Fak5, ⟨zok5, Fok5⟩⟩ := id P5
  refine Go.tr st5 ?_
  show Go p e below _ (T5.setTop (mkL a m 26 #[.val (.ref a)] [(.ref b3), (.ref a)]))
  have f6 := ((f4.ext E3).keep K5q)
  have f7 := ((f1.ext E3).keep K5q (ninS (Nat.ne_of_lt lt_a_b3) nin0))
  obtain ⟨T8, h8, X8, e8, W8, st8⟩ := putF X5 hx hZ hown (host := "") (Or.inl (hw _ (List.mem_of_getElem? (i := 41) rfl))) Via.refl rfl f7 f6 (Or.inl (hw _ (List.mem_of_getElem? (i := 42) rfl))) (hw _ (List.mem_of_getElem? (i := 1) rfl)) (ty := (.object "com/example/manyhands/manyhands/crowd/Totals$Held")) (by decide) rfl rfl (g := (mkL a m 26 #[.val (.ref a)] [(.ref b3), (.ref a)])) rfl rfl (hb hby d10_26)
  refine Go.st st8 ?_
  have Fw8 := f7.same W8
  have Zs8 : n0 ≤ h8.size := Nat.le_trans Zs5 (Nat.le_of_eq W8.size.symm)
  have N8 := Fr.snoc X8 N5 gn_a
  have B8 : Bs s.heap.size [a] _ := Bs.snoc X8 B5 (Or.inl (List.mem_of_getElem? (i := 0) rfl))
  have BZ8 : s.heap.size ≤ h8.size := Nat.le_trans BZ5 (Nat.le_of_eq W8.size.symm)
  show Go p e below _ (T8.setTop (mkL a m 29 #[.val (.ref a)] []))
  refine Go.st (fun _ kt => XS.aloadN X8.here hx rfl (hb hby d10_29) rfl rfl kt) ?_
  show Go p e below _ (T8.setTop (mkL a m 30 #[.val (.ref a)] [(.ref a)]))
  obtain ⟨T9, X9, e9, st9⟩ := getF X8 hx hZ hown (host := "") (Or.inl (hw _ (List.mem_of_getElem? (i := 41) rfl))) Via.refl e8 Fw8 (g := (mkL a m 30 #[.val (.ref a)] [(.ref a)])) rfl rfl (hb hby d10_30)
  refine Go.st st9 ?_
  show Go p e below _ (T9.setTop (mkL a m 33 #[.val (.ref a)] [(.ref b3)]))
  refine Go.syncA X9 hx Bd.object Bd.enterable Bd.synchronized Bd.returns rfl (hb hby d10_33) (Q := (Q_rm10 Z a cn h0 n0)) (by decide) (by decide) (ws := [a]) B8 ?_
  intro hV Mv Kv Uv
  rw [hh] at Kv Uv
  rw [e9] at Mv
  have f10 := (f6.wr W8)
  have f11 := ((((Fta.mon M0).ext E3).keep K5q (ninS (Nat.ne_of_lt lt_a_b3) nin0)).other W8 (Or.inr (slot_ne (Or.inl (hw _ (List.mem_of_getElem? (i := 21) rfl))) (Or.inl (hw _ (List.mem_of_getElem? (i := 42) rfl))) (by decide) (t := .long) (t' := (.object "com/example/manyhands/manyhands/crowd/Totals$Held")) (by decide) (by decide))))
  have f12 := ((((Fsa.mon M0).ext E3).keep K5q (ninS (Nat.ne_of_lt lt_a_b3) nin0)).other W8 (Or.inr (slot_ne (Or.inl (hw _ (List.mem_of_getElem? (i := 23) rfl))) (Or.inl (hw _ (List.mem_of_getElem? (i := 42) rfl))) (by decide) (t := .long) (t' := (.object "com/example/manyhands/manyhands/crowd/Totals$Held")) (by decide) (by decide))))
  have f13 := ((((Fca.mon M0).ext E3).keep K5q (ninS (Nat.ne_of_lt lt_a_b3) nin0)).other W8 (Or.inr (slot_ne (Or.inl (hw _ (List.mem_of_getElem? (i := 25) rfl))) (Or.inl (hw _ (List.mem_of_getElem? (i := 42) rfl))) (by decide) (t := .long) (t' := (.object "com/example/manyhands/manyhands/crowd/Totals$Held")) (by decide) (by decide))))
  have f14 := ((((Fna.mon M0).ext E3).keep K5q (ninS (Nat.ne_of_lt lt_a_b3) nin0)).other W8 (Or.inr (slot_ne (Or.inl (hw _ (List.mem_of_getElem? (i := 27) rfl))) (Or.inl (hw _ (List.mem_of_getElem? (i := 42) rfl))) (by decide) (t := .long) (t' := (.object "com/example/manyhands/manyhands/crowd/Totals$Held")) (by decide) (by decide))))
  have f15 := (E_k5.wr W8)
  have f16 := (F0k5.other W8 (Or.inl (Nat.ne_of_gt lt_a_b3)))
  have f17 := (Fak5.other W8 (Or.inl (Nat.ne_of_gt lt_a_b3)))
  have f18 := (Fok5.other W8 (Or.inl (Nat.ne_of_gt lt_a_b3)))
  exact ⟨_, rfl, N8, Kv, Uv _ U_a, (by rw [← hh]; exact kn_b3), ⟨f10.mon Mv, ⟨_, f11.mon Mv⟩, ⟨_, f12.mon Mv⟩, ⟨_, f13.mon Mv⟩, f14.mon Mv, Fw8.mon Mv⟩, ⟨f15.mon Mv, f16.mon Mv, f17.mon Mv, ⟨_, f18.mon Mv⟩⟩⟩
theorem d12_0 : decode prog_55_method_4_code 0 = .ok (.aload_n 0, 1) := by decide +kernel
theorem d12_1 : decode prog_55_method_4_code 1 = .ok (.getfield 1, 3) := by decide +kernel
theorem d12_4 : decode prog_55_method_4_code 4 = .ok (.dup, 1) := by decide +kernel
theorem d12_5 : decode prog_55_method_4_code 5 = .ok (.astore_n 1, 1) := by decide +kernel
theorem d12_6 : decode prog_55_method_4_code 6 = .ok (.monitorenter, 1) := by decide +kernel
theorem d12_7 : decode prog_55_method_4_code 7 = .ok (.aload_n 0, 1) := by decide +kernel
theorem d12_8 : decode prog_55_method_4_code 8 = .ok (.getfield 1, 3) := by decide +kernel
theorem d12_11 : decode prog_55_method_4_code 11 = .ok (.aload_n 0, 1) := by decide +kernel
theorem d12_12 : decode prog_55_method_4_code 12 = .ok (.getfield 13, 3) := by decide +kernel
theorem d12_15 : decode prog_55_method_4_code 15 = .ok (.aload_n 0, 1) := by decide +kernel
theorem d12_16 : decode prog_55_method_4_code 16 = .ok (.getfield 17, 3) := by decide +kernel
theorem d12_19 : decode prog_55_method_4_code 19 = .ok (.invokevirtual 20, 3) := by decide +kernel
theorem d12_22 : decode prog_55_method_4_code 22 = .ok (.aload_n 0, 1) := by decide +kernel
theorem d12_23 : decode prog_55_method_4_code 23 = .ok (.lconst 0, 1) := by decide +kernel
theorem d12_24 : decode prog_55_method_4_code 24 = .ok (.putfield 13, 3) := by decide +kernel
theorem d12_27 : decode prog_55_method_4_code 27 = .ok (.aload_n 0, 1) := by decide +kernel
theorem d12_28 : decode prog_55_method_4_code 28 = .ok (.lconst 0, 1) := by decide +kernel
theorem d12_29 : decode prog_55_method_4_code 29 = .ok (.putfield 17, 3) := by decide +kernel
theorem d12_32 : decode prog_55_method_4_code 32 = .ok (.aload_n 1, 1) := by decide +kernel
theorem d12_33 : decode prog_55_method_4_code 33 = .ok (.monitorexit, 1) := by decide +kernel
theorem d12_34 : decode prog_55_method_4_code 34 = .ok (.goto 8, 3) := by decide +kernel
theorem d12_42 : decode prog_55_method_4_code 42 = .ok (.return_, 1) := by decide +kernel
def Q_rm12 (Z : State) (b : Addr) (tt : Addr) (cn : Int64) (hv : Value) (an : Int64) (h0 : Heap) (n0 : Nat) (v : Option Value) (h : Heap) (L : List Loc) : Prop := v = none ∧ Fr n0 L ∧ Keep h0 h [tt, b] ∧ Unt h tt ∧ TB Z h tt (own_c1 an cn) hv ∧ HB Z h b tt (0 : Int64)
theorem ef_rm12 (m : MethodId) (b : Addr) : entryFrame m #[(.ref b)] 3 = mkF m 0 #[.val (.ref b), .unset, .unset] [] := by first | (simp [entryFrame, mkF, argsToLocals, Value.category]; done) | rfl
set_option maxRecDepth 65536 in
set_option maxHeartbeats 40000000 in
theorem rm12 (l : Launch) (Z : State) (a0 : Array Value) (hw : ∀ d ∈ tables_1, d.before a0 Z = true) (ws : List Jvm.Cond) (b : Addr) (tt : Addr) (cn : Int64) (hv : Value) (an : Int64) (h0 : Heap) (n0 : Nat) (Z0 : n0 ≤ h0.size) (PH : HB Z h0 b tt an) (P : TB Z h0 tt cn hv) (U_t : Unt h0 tt) (gn_b : n0 ≤ b) (gn_tt : n0 ≤ tt) (ntb : tt ≠ b) :
    MetFree l (⟨"com/example/manyhands/manyhands/crowd/Totals$Held", "count", "()V"⟩ : MethodName) (head1 (Jvm.Cond.codeWith (⟨"com/example/manyhands/manyhands/crowd/Totals$Held", "count", "()V"⟩ : MethodName) prog_55_method_4_code 3 none [((7 : Nat), (34 : Nat), (37 : Nat), (0 : Nat)), ((37 : Nat), (40 : Nat), (37 : Nat), (0 : Nat))] :: ws) ({ frames := 1, cells := 0, slots := 0, locals := 18 } : Room)) (fun ag_ U_ => ag_ = #[(.ref b)] ∧ Z.Warmed39 U_.vm ∧ U_.heap = h0) (fun _ _ _ _ _ => True) (fun _ U_ o_ V_ => ∃ v_ L_, o_ = .returned v_ ∧ (Q_rm12 Z b tt cn hv an h0 n0) v_ V_.heap L_ ∧ FrameEnd U_ o_ V_ L_ ({ frames := 1, cells := 0, slots := 0, locals := 18 } : Room).cells ({ frames := 1, cells := 0, slots := 0, locals := 18 } : Room).slots) := by
  refine MetFree.of_bodySF (plainFor_of_name own_pn1) hisWith ?_
  intro p e s m args below meth c s₁ Bd hml0 hP hK
  obtain ⟨rfl, hZ, hh⟩ := hP
  have hx := Bd.exec
  have hby := Bd.bytes
  have hml : c.maxLocals = 3 := hml0
  have hown : s.vm.findClass "com/example/manyhands/manyhands/crowd/Totals$Held" = some m.cls := findClass_of_methodNamed Bd.named
  have hnm := (name_of_methodNamed Bd.named Bd.method).1
  have X0 : Stand p l e ({ frames := 1, cells := 0, slots := 0, locals := 18 } : Room) s m #[(.ref b)] below meth c s₁ [] 0 0 := Stand.of_body Bd
  have e0 : s₁.heap = h0 := by rw [← hh, Bd.state]; rfl
  have N0 := Fr.nil n0
  have hh' := hh
  have hZ0 := hZ
  have hown0 := hown
  have BZ0 : s.heap.size ≤ h0.size := by rw [hh]; exact Nat.le_refl _
  have B0 := Bs.nil s.heap.size [tt, b]
  have hns : meth.isSynchronized = false := by have q := BodyLoose.notSynchronized Bd; simpa [Method.locks, hnm] using q
  refine Go.st (G := fun s₂ o_ => ∃ v_ L_, o_ = .returned v_ ∧ (Q_rm12 Z b tt cn hv an h0 n0) v_ s₂.heap L_ ∧ FrameEnd s o_ s₂ L_ ({ frames := 1, cells := 0, slots := 0, locals := 18 } : Room).cells ({ frames := 1, cells := 0, slots := 0, locals := 18 } : Room).slots) (fun t kt => castTop (ef_rm12 m b) kt) ?_
  obtain ⟨E_t, ⟨ztt, Ftt⟩, ⟨zst, Fst⟩, ⟨zct, Fct⟩, Fnt, Fht⟩ := id P
  obtain ⟨E_b, F0b, Fab, ⟨zob, Fob⟩⟩ := id PH
  show Go p e below _ (s₁.setTop (mkF m 0 #[.val (.ref b), .unset, .unset] []))
  refine Go.st (fun _ kt => XS.aloadN X0.here hx rfl (hb hby d12_0) rfl rfl kt) ?_
  show Go p e below _ (s₁.setTop (mkF m 1 #[.val (.ref b), .unset, .unset] [(.ref b)]))
  obtain ⟨T1, X1, e1, st1⟩ := getF X0 hx hZ hown (host := "") (Or.inl (hw _ (List.mem_of_getElem? (i := 63) rfl))) Via.refl e0 F0b (g := (mkF m 1 #[.val (.ref b), .unset, .unset] [(.ref b)])) rfl rfl (hb hby d12_1)
  refine Go.st st1 ?_
  show Go p e below _ (T1.setTop (mkF m 4 #[.val (.ref b), .unset, .unset] [(.ref tt)]))
  refine Go.st (fun _ kt => XS.dup X1.here hx rfl (hb hby d12_4) rfl rfl kt) ?_
  show Go p e below _ (T1.setTop (mkF m 5 #[.val (.ref b), .unset, .unset] [(.ref tt), (.ref tt)]))
  refine Go.st (fun _ kt => XS.astoreN X1.here hx rfl (hb hby d12_5) rfl rfl (l' := #[.val (.ref b), .val (.ref tt), .unset]) rfl kt) ?_
  show Go p e below _ (T1.setTop (mkF m 6 #[.val (.ref b), .val (.ref tt), .unset] [(.ref tt)]))
  obtain ⟨ct, ut1, ut2, ut3⟩ := id U_t
  have hsl : s.heap[tt]? = some ct := by rw [hh]; exact ut1
  obtain ⟨T2, X2, M2, Ow2, st2⟩ := own_enter X1 hx (by rw [hml]; rfl) (hb hby d12_6) (a := tt) (rest := []) (Ls := #[.val (.ref b), .val (.ref tt), .unset]) hsl (by rw [e1]; exact ut1) ut3 hns (by decide)
  refine Go.st st2 ?_
  obtain ⟨h2, e2⟩ : ∃ z, T2.heap = z := ⟨_, rfl⟩
  rw [e1, e2] at M2
  rw [e2] at Ow2
  have hZ : Z.Warmed39 (s.setCell tt (ct.withEntry s.cur)).vm := hZ0
  have hown : (s.setCell tt (ct.withEntry s.cur)).vm.findClass "com/example/manyhands/manyhands/crowd/Totals$Held" = some m.cls := hown0
  have Zs2 : n0 ≤ h2.size := by rw [M2.size]; exact Z0
  have BZ2 : s.heap.size ≤ h2.size := by rw [M2.size]; exact BZ0
  show Go p e below _ (T2.setTop (mkE tt m 7 #[.val (.ref b), .val (.ref tt), .unset] []))
  refine Go.st (fun _ kt => XS.aloadN X2.here hx rfl (hb hby d12_7) rfl rfl kt) ?_
  show Go p e below _ (T2.setTop (mkE tt m 8 #[.val (.ref b), .val (.ref tt), .unset] [(.ref b)]))
  have f3 := (F0b.mon M2)
  obtain ⟨T4, X4, e4, st4⟩ := getF X2 hx hZ hown (host := "") (Or.inl (hw _ (List.mem_of_getElem? (i := 63) rfl))) Via.refl e2 f3 (g := (mkE tt m 8 #[.val (.ref b), .val (.ref tt), .unset] [(.ref b)])) rfl rfl (hb hby d12_8)
  refine Go.st st4 ?_
  show Go p e below _ (T4.setTop (mkE tt m 11 #[.val (.ref b), .val (.ref tt), .unset] [(.ref tt)]))
  refine Go.st (fun _ kt => XS.aloadN X4.here hx rfl (hb hby d12_11) rfl rfl kt) ?_
  show Go p e below _ (T4.setTop (mkE tt m 12 #[.val (.ref b), .val (.ref tt), .unset] [(.ref b), (.ref tt)]))
  have f5 := (Fab.mon M2)
  obtain ⟨T6, X6, e6, st6⟩ := getF X4 hx hZ hown (host := "") (Or.inl (hw _ (List.mem_of_getElem? (i := 75) rfl))) Via.refl e4 f5 (g := (mkE tt m 12 #[.val (.ref b), .val (.ref tt), .unset] [(.ref b), (.ref tt)])) rfl rfl (hb hby d12_12)
  refine Go.st st6 ?_
  show Go p e below _ (T6.setTop (mkE tt m 15 #[.val (.ref b), .val (.ref tt), .unset] [(.long an), (.ref tt)]))
  refine Go.st (fun _ kt => XS.aloadN X6.here hx rfl (hb hby d12_15) rfl rfl kt) ?_
  show Go p e below _ (T6.setTop (mkE tt m 16 #[.val (.ref b), .val (.ref tt), .unset] [(.ref b), (.long an), (.ref tt)]))
  have f7 := (Fob.mon M2)
  obtain ⟨T8, X8, e8, st8⟩ := getF X6 hx hZ hown (host := "") (Or.inl (hw _ (List.mem_of_getElem? (i := 76) rfl))) Via.refl e6 f7 (g := (mkE tt m 16 #[.val (.ref b), .val (.ref tt), .unset] [(.ref b), (.long an), (.ref tt)])) rfl rfl (hb hby d12_16)
  refine Go.st st8 ?_
  show Go p e below _ (T8.setTop (mkE tt m 19 #[.val (.ref b), .val (.ref tt), .unset] [(.long zob), (.long an), (.ref tt)]))
  have f9 := (E_t.mon M2)
  have f10 := (Ftt.mon M2)
  have f11 := (Fst.mon M2)
  have f12 := (Fct.mon M2)
  have f13 := (Fnt.mon M2)
  have f14 := (Fht.mon M2)
  obtain ⟨cq15, q15, q15'⟩ := f9.cell
  obtain ⟨_, _, ⟨T15, L15, k15, n15⟩, -, X15, ⟨Lc15, hQ15, l15, y15, z15⟩, st15⟩ := own_privNest X8 hx (y := (⟨"com/example/manyhands/manyhands/crowd/Totals", "add", "(JJ)V"⟩ : MethodName)) hown (own_mvNM hZ (hw _ (List.mem_of_getElem? (i := 77) rfl))) (mvT hZ (hw _ (List.mem_of_getElem? (i := 44) rfl))) (own_self hZ (hw _ (List.mem_of_getElem? (i := 1) rfl)) (hw _ (List.mem_of_getElem? (i := 45) rfl)) (hw _ (List.mem_of_getElem? (i := 44) rfl)) (by decide)) (Cond.privateMethod_at (mvP hZ (hw _ (List.mem_of_getElem? (i := 45) rfl)) (args := #[]))) (mvT hZ (hw _ (List.mem_of_getElem? (i := 46) rfl))) (by decide) (backOf (W := 2) (rm8 l Z a0 hw [] tt an zob cn hv h2 n0 Zs2 ⟨f9, ⟨_, f10⟩, ⟨_, f11⟩, ⟨_, f12⟩, f13, f14⟩ gn_tt) hZ (hw _ (List.mem_of_getElem? (i := 46) rfl)) (hw _ (List.mem_of_getElem? (i := 2) rfl)) (by decide) (by decide)) (g := (mkE tt m 19 #[.val (.ref b), .val (.ref tt), .unset] [(.long zob), (.long an), (.ref tt)])) rfl (by rw [hml]; rfl) (Steps.refl _) (a := tt) (by rw [e8]; exact q15) q15' (argsL := [(.long an), (.long zob)]) (rest := []) (lenOf own_pd2 rfl) rfl (by show 2 * 1 + _ ≤ _; exact Nat.le_of_eq rfl) (hb hby d12_19) (fun _ _ => ⟨rfl, e8, (by decide : 0 + 0 ≤ _), (by decide : 0 + 0 ≤ _)⟩)
  dsimp only [Pt.U, Pt.locs, Pt.cells, Pt.slots] at X15 l15 y15 z15 st15 hQ15
  subst l15 y15 z15
  obtain ⟨rfl, N15q, K15q, hB15, hM15, P15⟩ := hQ15
  have Zs15 : n0 ≤ T15.heap.size := Nat.le_trans Zs2 K15q.1
  have N15 := Fr.app N0 N15q
  have B15 : Bs s.heap.size [tt, b] _ := Bs.app B0 (Bs.up hB15 BZ2 (allS (Or.inl (List.mem_of_getElem? (i := 0) rfl)) all0))
  have BZ15 : s.heap.size ≤ T15.heap.size := Nat.le_trans BZ2 K15q.1
  have Ow15 := Own.mk hM15 Ow2
  obtain ⟨E_k15, ⟨ztk15, Ftk15⟩, ⟨zsk15, Fsk15⟩, ⟨zck15, Fck15⟩, Fnk15, Fhk15⟩ := id P15
  refine Go.tr st15 ?_
  show Go p e below _ (T15.setTop (mkE tt m 22 #[.val (.ref b), .val (.ref tt), .unset] []))
  refine Go.st (fun _ kt => XS.aloadN X15.here hx rfl (hb hby d12_22) rfl rfl kt) ?_
  show Go p e below _ (T15.setTop (mkE tt m 23 #[.val (.ref b), .val (.ref tt), .unset] [(.ref b)]))
  refine Go.st (fun _ kt => XS.lconst X15.here hx rfl (hb hby d12_23) kt) ?_
  show Go p e below _ (T15.setTop (mkE tt m 24 #[.val (.ref b), .val (.ref tt), .unset] [(.long (0 : Int64)), (.ref b)]))
  have f16 := ((E_b.mon M2).keep K15q)
  have f17 := (f5.keep K15q (ninS (Ne.symm ntb) nin0))
  obtain ⟨T18, h18, X18, e18, W18, st18⟩ := putF X15 hx hZ hown (host := "") (Or.inl (hw _ (List.mem_of_getElem? (i := 75) rfl))) Via.refl rfl f17 f16 (Or.inl (hw _ (List.mem_of_getElem? (i := 67) rfl))) (hw _ (List.mem_of_getElem? (i := 58) rfl)) (ty := .long) (by decide) rfl rfl (g := (mkE tt m 24 #[.val (.ref b), .val (.ref tt), .unset] [(.long (0 : Int64)), (.ref b)])) rfl rfl (hb hby d12_24)
  refine Go.st st18 ?_
  have Fw18 := f17.same W18
  have Zs18 : n0 ≤ h18.size := Nat.le_trans Zs15 (Nat.le_of_eq W18.size.symm)
  have N18 := Fr.snoc X18 N15 gn_b
  have B18 : Bs s.heap.size [tt, b] _ := Bs.snoc X18 B15 (Or.inl (List.mem_of_getElem? (i := 1) rfl))
  have BZ18 : s.heap.size ≤ h18.size := Nat.le_trans BZ15 (Nat.le_of_eq W18.size.symm)
  have Ow18 := Own.mk ((MK.refl _).wr W18) Ow15
  show Go p e below _ (T18.setTop (mkE tt m 27 #[.val (.ref b), .val (.ref tt), .unset] []))
  refine Go.st (fun _ kt => XS.aloadN X18.here hx rfl (hb hby d12_27) rfl rfl kt) ?_
  show Go p e below _ (T18.setTop (mkE tt m 28 #[.val (.ref b), .val (.ref tt), .unset] [(.ref b)]))
  refine Go.st (fun _ kt => XS.lconst X18.here hx rfl (hb hby d12_28) kt) ?_
  show Go p e below _ (T18.setTop (mkE tt m 29 #[.val (.ref b), .val (.ref tt), .unset] [(.long (0 : Int64)), (.ref b)]))
  have f19 := (f16.wr W18)
  have f20 := ((f7.keep K15q (ninS (Ne.symm ntb) nin0)).other W18 (Or.inr (slot_ne (Or.inl (hw _ (List.mem_of_getElem? (i := 69) rfl))) (Or.inl (hw _ (List.mem_of_getElem? (i := 67) rfl))) (by decide) (t := .long) (t' := .long) (by decide) (by decide))))
  obtain ⟨T21, h21, X21, e21, W21, st21⟩ := putF X18 hx hZ hown (host := "") (Or.inl (hw _ (List.mem_of_getElem? (i := 76) rfl))) Via.refl e18 f20 f19 (Or.inl (hw _ (List.mem_of_getElem? (i := 69) rfl))) (hw _ (List.mem_of_getElem? (i := 58) rfl)) (ty := .long) (by decide) rfl rfl (g := (mkE tt m 29 #[.val (.ref b), .val (.ref tt), .unset] [(.long (0 : Int64)), (.ref b)])) rfl rfl (hb hby d12_29)
  refine Go.st st21 ?_
  have Fw21 := f20.same W21
  have Zs21 : n0 ≤ h21.size := Nat.le_trans Zs18 (Nat.le_of_eq W21.size.symm)
  have N21 := Fr.snoc X21 N18 gn_b
  have B21 : Bs s.heap.size [tt, b] _ := Bs.snoc X21 B18 (Or.inl (List.mem_of_getElem? (i := 1) rfl))
  have BZ21 : s.heap.size ≤ h21.size := Nat.le_trans BZ18 (Nat.le_of_eq W21.size.symm)
  have Ow21 := Own.mk ((MK.refl _).wr W21) Ow18
  show Go p e below _ (T21.setTop (mkE tt m 32 #[.val (.ref b), .val (.ref tt), .unset] []))
  refine Go.st (fun _ kt => XS.aloadN X21.here hx rfl (hb hby d12_32) rfl rfl kt) ?_
  show Go p e below _ (T21.setTop (mkE tt m 33 #[.val (.ref b), .val (.ref tt), .unset] [(.ref tt)]))
  obtain ⟨T22, X22, M22, st22⟩ := own_exit X21 hx (hb hby d12_33) (rest := []) (Ls := #[.val (.ref b), .val (.ref tt), .unset]) hsl ut3 (by rw [e21]; exact Ow21)
  refine Go.st st22 ?_
  obtain ⟨h22, e22⟩ : ∃ z, T22.heap = z := ⟨_, rfl⟩
  rw [e21, e22] at M22
  have hZ : Z.Warmed39 s.vm := hZ0
  have hown := hown0
  have Zs22 : n0 ≤ h22.size := by rw [M22.size]; exact Zs21
  have BZ22 : s.heap.size ≤ h22.size := by rw [M22.size]; exact BZ21
  show Go p e below _ (T22.setTop (mkX m 34 #[.val (.ref b), .val (.ref tt), .unset] []))
  refine Go.st (fun _ kt => XS.goto X22.here hx rfl (pc0 := 34) (pc' := 42) rfl (hb hby d12_34) (by decide) (by decide) kt) ?_
  show Go p e below _ (T22.setTop (mkX m 42 #[.val (.ref b), .val (.ref tt), .unset] []))
  refine Go.retVX X22 hx Bd.returns (BodyLoose.notSynchronized Bd) (hb hby d12_42) (Q := (Q_rm12 Z b tt cn hv an h0 n0)) (by decide) (by decide) (ws := [tt, b]) B21 ?_
  intro Kv Uv
  rw [hh] at Kv Uv
  rw [e22] at Kv Uv ⊢
  have f23 := (((E_k15.wr W18).wr W21).mon M22)
  have f24 := (((Ftk15.other W18 (Or.inl ntb)).other W21 (Or.inl ntb)).mon M22)
  have f25 := (((Fsk15.other W18 (Or.inl ntb)).other W21 (Or.inl ntb)).mon M22)
  have f26 := (((Fck15.other W18 (Or.inl ntb)).other W21 (Or.inl ntb)).mon M22)
  have f27 := (((Fnk15.other W18 (Or.inl ntb)).other W21 (Or.inl ntb)).mon M22)
  have f28 := (((Fhk15.other W18 (Or.inl ntb)).other W21 (Or.inl ntb)).mon M22)
  have f29 := ((f19.wr W21).mon M22)
  have f30 := ((((f3.keep K15q (ninS (Ne.symm ntb) nin0)).other W18 (Or.inr (slot_ne (Or.inr (hw _ (List.mem_of_getElem? (i := 64) rfl))) (Or.inl (hw _ (List.mem_of_getElem? (i := 67) rfl))) (by decide) (t := (.object "com/example/manyhands/manyhands/crowd/Totals")) (t' := .long) (by decide) (by decide)))).other W21 (Or.inr (slot_ne (Or.inr (hw _ (List.mem_of_getElem? (i := 64) rfl))) (Or.inl (hw _ (List.mem_of_getElem? (i := 69) rfl))) (by decide) (t := (.object "com/example/manyhands/manyhands/crowd/Totals")) (t' := .long) (by decide) (by decide)))).mon M22)
  have f31 := ((Fw18.other W21 (Or.inr (slot_ne (Or.inl (hw _ (List.mem_of_getElem? (i := 67) rfl))) (Or.inl (hw _ (List.mem_of_getElem? (i := 69) rfl))) (by decide) (t := .long) (t' := .long) (by decide) (by decide)))).mon M22)
  have f32 := (Fw21.mon M22)
  exact ⟨rfl, N21, Kv, Uv _ U_t, ⟨f23, ⟨_, f24⟩, ⟨_, f25⟩, ⟨_, f26⟩, f27, f28⟩, ⟨f29, f30, f31, ⟨_, f32⟩⟩⟩
theorem d13_0 : decode prog_55_method_5_code 0 = .ok (.aload_n 0, 1) := by decide +kernel
theorem d13_1 : decode prog_55_method_5_code 1 = .ok (.getfield 1, 3) := by decide +kernel
theorem d13_4 : decode prog_55_method_5_code 4 = .ok (.dup, 1) := by decide +kernel
theorem d13_5 : decode prog_55_method_5_code 5 = .ok (.astore_n 1, 1) := by decide +kernel
theorem d13_6 : decode prog_55_method_5_code 6 = .ok (.monitorenter, 1) := by decide +kernel
theorem d13_7 : decode prog_55_method_5_code 7 = .ok (.aload_n 0, 1) := by decide +kernel
theorem d13_8 : decode prog_55_method_5_code 8 = .ok (.getfield 1, 3) := by decide +kernel
theorem d13_11 : decode prog_55_method_5_code 11 = .ok (.aconst_null, 1) := by decide +kernel
theorem d13_12 : decode prog_55_method_5_code 12 = .ok (.putfield 26, 3) := by decide +kernel
theorem d13_15 : decode prog_55_method_5_code 15 = .ok (.aload_n 1, 1) := by decide +kernel
theorem d13_16 : decode prog_55_method_5_code 16 = .ok (.monitorexit, 1) := by decide +kernel
theorem d13_17 : decode prog_55_method_5_code 17 = .ok (.goto 8, 3) := by decide +kernel
theorem d13_25 : decode prog_55_method_5_code 25 = .ok (.return_, 1) := by decide +kernel
def Q_rm13 (Z : State) (b : Addr) (tt : Addr) (cn : Int64) (hv : Value) (an : Int64) (h0 : Heap) (n0 : Nat) (v : Option Value) (h : Heap) (L : List Loc) : Prop := v = none ∧ Fr n0 L ∧ Keep h0 h [tt] ∧ Unt h tt ∧ TB Z h tt cn .null
theorem ef_rm13 (m : MethodId) (b : Addr) : entryFrame m #[(.ref b)] 3 = mkF m 0 #[.val (.ref b), .unset, .unset] [] := by first | (simp [entryFrame, mkF, argsToLocals, Value.category]; done) | rfl
set_option maxRecDepth 65536 in
set_option maxHeartbeats 40000000 in
theorem rm13 (l : Launch) (Z : State) (a0 : Array Value) (hw : ∀ d ∈ tables_1, d.before a0 Z = true) (ws : List Jvm.Cond) (b : Addr) (tt : Addr) (cn : Int64) (hv : Value) (an : Int64) (h0 : Heap) (n0 : Nat) (Z0 : n0 ≤ h0.size) (PH : HB Z h0 b tt an) (P : TB Z h0 tt cn hv) (U_t : Unt h0 tt) (gn_b : n0 ≤ b) (gn_tt : n0 ≤ tt) (ntb : tt ≠ b) :
    MetFree l (⟨"com/example/manyhands/manyhands/crowd/Totals$Held", "close", "()V"⟩ : MethodName) (head1 (Jvm.Cond.codeWith (⟨"com/example/manyhands/manyhands/crowd/Totals$Held", "close", "()V"⟩ : MethodName) prog_55_method_5_code 3 none [((7 : Nat), (17 : Nat), (20 : Nat), (0 : Nat)), ((20 : Nat), (23 : Nat), (20 : Nat), (0 : Nat))] :: ws) ({ frames := 0, cells := 0, slots := 0, locals := 2 } : Room)) (fun ag_ U_ => ag_ = #[(.ref b)] ∧ Z.Warmed39 U_.vm ∧ U_.heap = h0) (fun _ _ _ _ _ => True) (fun _ U_ o_ V_ => ∃ v_ L_, o_ = .returned v_ ∧ (Q_rm13 Z b tt cn hv an h0 n0) v_ V_.heap L_ ∧ FrameEnd U_ o_ V_ L_ ({ frames := 0, cells := 0, slots := 0, locals := 2 } : Room).cells ({ frames := 0, cells := 0, slots := 0, locals := 2 } : Room).slots) := by
  refine MetFree.of_bodySF (plainFor_of_name own_pn1) hisWith ?_
  intro p e s m args below meth c s₁ Bd hml0 hP hK
  obtain ⟨rfl, hZ, hh⟩ := hP
  have hx := Bd.exec
  have hby := Bd.bytes
  have hml : c.maxLocals = 3 := hml0
  have hown : s.vm.findClass "com/example/manyhands/manyhands/crowd/Totals$Held" = some m.cls := findClass_of_methodNamed Bd.named
  have hnm := (name_of_methodNamed Bd.named Bd.method).1
  have X0 : Stand p l e ({ frames := 0, cells := 0, slots := 0, locals := 2 } : Room) s m #[(.ref b)] below meth c s₁ [] 0 0 := Stand.of_body Bd
  have e0 : s₁.heap = h0 := by rw [← hh, Bd.state]; rfl
  have N0 := Fr.nil n0
  have hh' := hh
  have hZ0 := hZ
  have hown0 := hown
  have BZ0 : s.heap.size ≤ h0.size := by rw [hh]; exact Nat.le_refl _
  have B0 := Bs.nil s.heap.size [tt]
  have hns : meth.isSynchronized = false := by have q := BodyLoose.notSynchronized Bd; simpa [Method.locks, hnm] using q
  refine Go.st (G := fun s₂ o_ => ∃ v_ L_, o_ = .returned v_ ∧ (Q_rm13 Z b tt cn hv an h0 n0) v_ s₂.heap L_ ∧ FrameEnd s o_ s₂ L_ ({ frames := 0, cells := 0, slots := 0, locals := 2 } : Room).cells ({ frames := 0, cells := 0, slots := 0, locals := 2 } : Room).slots) (fun t kt => castTop (ef_rm13 m b) kt) ?_
  obtain ⟨E_t, ⟨ztt, Ftt⟩, ⟨zst, Fst⟩, ⟨zct, Fct⟩, Fnt, Fht⟩ := id P
  obtain ⟨E_b, F0b, Fab, ⟨zob, Fob⟩⟩ := id PH
  show Go p e below _ (s₁.setTop (mkF m 0 #[.val (.ref b), .unset, .unset] []))
  refine Go.st (fun _ kt => XS.aloadN X0.here hx rfl (hb hby d13_0) rfl rfl kt) ?_
  show Go p e below _ (s₁.setTop (mkF m 1 #[.val (.ref b), .unset, .unset] [(.ref b)]))
  obtain ⟨T1, X1, e1, st1⟩ := getF X0 hx hZ hown (host := "") (Or.inl (hw _ (List.mem_of_getElem? (i := 63) rfl))) Via.refl e0 F0b (g := (mkF m 1 #[.val (.ref b), .unset, .unset] [(.ref b)])) rfl rfl (hb hby d13_1)
  refine Go.st st1 ?_
  show Go p e below _ (T1.setTop (mkF m 4 #[.val (.ref b), .unset, .unset] [(.ref tt)]))
  refine Go.st (fun _ kt => XS.dup X1.here hx rfl (hb hby d13_4) rfl rfl kt) ?_
  show Go p e below _ (T1.setTop (mkF m 5 #[.val (.ref b), .unset, .unset] [(.ref tt), (.ref tt)]))
  refine Go.st (fun _ kt => XS.astoreN X1.here hx rfl (hb hby d13_5) rfl rfl (l' := #[.val (.ref b), .val (.ref tt), .unset]) rfl kt) ?_
  show Go p e below _ (T1.setTop (mkF m 6 #[.val (.ref b), .val (.ref tt), .unset] [(.ref tt)]))
  obtain ⟨ct, ut1, ut2, ut3⟩ := id U_t
  have hsl : s.heap[tt]? = some ct := by rw [hh]; exact ut1
  obtain ⟨T2, X2, M2, Ow2, st2⟩ := own_enter X1 hx (by rw [hml]; rfl) (hb hby d13_6) (a := tt) (rest := []) (Ls := #[.val (.ref b), .val (.ref tt), .unset]) hsl (by rw [e1]; exact ut1) ut3 hns (by decide)
  refine Go.st st2 ?_
  obtain ⟨h2, e2⟩ : ∃ z, T2.heap = z := ⟨_, rfl⟩
  rw [e1, e2] at M2
  rw [e2] at Ow2
  have hZ : Z.Warmed39 (s.setCell tt (ct.withEntry s.cur)).vm := hZ0
  have hown : (s.setCell tt (ct.withEntry s.cur)).vm.findClass "com/example/manyhands/manyhands/crowd/Totals$Held" = some m.cls := hown0
  have Zs2 : n0 ≤ h2.size := by rw [M2.size]; exact Z0
  have BZ2 : s.heap.size ≤ h2.size := by rw [M2.size]; exact BZ0
  show Go p e below _ (T2.setTop (mkE tt m 7 #[.val (.ref b), .val (.ref tt), .unset] []))
  refine Go.st (fun _ kt => XS.aloadN X2.here hx rfl (hb hby d13_7) rfl rfl kt) ?_
  show Go p e below _ (T2.setTop (mkE tt m 8 #[.val (.ref b), .val (.ref tt), .unset] [(.ref b)]))
  have f3 := (F0b.mon M2)
  obtain ⟨T4, X4, e4, st4⟩ := getF X2 hx hZ hown (host := "") (Or.inl (hw _ (List.mem_of_getElem? (i := 63) rfl))) Via.refl e2 f3 (g := (mkE tt m 8 #[.val (.ref b), .val (.ref tt), .unset] [(.ref b)])) rfl rfl (hb hby d13_8)
  refine Go.st st4 ?_
  show Go p e below _ (T4.setTop (mkE tt m 11 #[.val (.ref b), .val (.ref tt), .unset] [(.ref tt)]))
  refine Go.st (fun _ kt => XS.aconstNull X4.here hx rfl (hb hby d13_11) kt) ?_
  show Go p e below _ (T4.setTop (mkE tt m 12 #[.val (.ref b), .val (.ref tt), .unset] [.null, (.ref tt)]))
  have f5 := (E_t.mon M2)
  have f6 := (Fht.mon M2)
  obtain ⟨T7, h7, X7, e7, W7, st7⟩ := putF X4 hx hZ hown (Or.inr (hw _ (List.mem_of_getElem? (i := 83) rfl))) Via.refl e4 f6 f5 (Or.inl (hw _ (List.mem_of_getElem? (i := 42) rfl))) (hw _ (List.mem_of_getElem? (i := 1) rfl)) (ty := (.object "com/example/manyhands/manyhands/crowd/Totals$Held")) (by decide) rfl rfl (g := (mkE tt m 12 #[.val (.ref b), .val (.ref tt), .unset] [.null, (.ref tt)])) rfl rfl (hb hby d13_12)
  refine Go.st st7 ?_
  have Fw7 := f6.same W7
  have Zs7 : n0 ≤ h7.size := Nat.le_trans Zs2 (Nat.le_of_eq W7.size.symm)
  have N7 := Fr.snoc X7 N0 gn_tt
  have B7 : Bs s.heap.size [tt] _ := Bs.snoc X7 B0 (Or.inl (List.mem_of_getElem? (i := 0) rfl))
  have BZ7 : s.heap.size ≤ h7.size := Nat.le_trans BZ2 (Nat.le_of_eq W7.size.symm)
  have Ow7 := Own.mk ((MK.refl _).wr W7) Ow2
  show Go p e below _ (T7.setTop (mkE tt m 15 #[.val (.ref b), .val (.ref tt), .unset] []))
  refine Go.st (fun _ kt => XS.aloadN X7.here hx rfl (hb hby d13_15) rfl rfl kt) ?_
  show Go p e below _ (T7.setTop (mkE tt m 16 #[.val (.ref b), .val (.ref tt), .unset] [(.ref tt)]))
  obtain ⟨T8, X8, M8, st8⟩ := own_exit X7 hx (hb hby d13_16) (rest := []) (Ls := #[.val (.ref b), .val (.ref tt), .unset]) hsl ut3 (by rw [e7]; exact Ow7)
  refine Go.st st8 ?_
  obtain ⟨h8, e8⟩ : ∃ z, T8.heap = z := ⟨_, rfl⟩
  rw [e7, e8] at M8
  have hZ : Z.Warmed39 s.vm := hZ0
  have hown := hown0
  have Zs8 : n0 ≤ h8.size := by rw [M8.size]; exact Zs7
  have BZ8 : s.heap.size ≤ h8.size := by rw [M8.size]; exact BZ7
  show Go p e below _ (T8.setTop (mkX m 17 #[.val (.ref b), .val (.ref tt), .unset] []))
  refine Go.st (fun _ kt => XS.goto X8.here hx rfl (pc0 := 17) (pc' := 25) rfl (hb hby d13_17) (by decide) (by decide) kt) ?_
  show Go p e below _ (T8.setTop (mkX m 25 #[.val (.ref b), .val (.ref tt), .unset] []))
  refine Go.retVX X8 hx Bd.returns (BodyLoose.notSynchronized Bd) (hb hby d13_25) (Q := (Q_rm13 Z b tt cn hv an h0 n0)) (by decide) (by decide) (ws := [tt]) B7 ?_
  intro Kv Uv
  rw [hh] at Kv Uv
  rw [e8] at Kv Uv ⊢
  have f9 := ((f5.wr W7).mon M8)
  have f10 := (((Ftt.mon M2).other W7 (Or.inr (slot_ne (Or.inl (hw _ (List.mem_of_getElem? (i := 21) rfl))) (Or.inl (hw _ (List.mem_of_getElem? (i := 42) rfl))) (by decide) (t := .long) (t' := (.object "com/example/manyhands/manyhands/crowd/Totals$Held")) (by decide) (by decide)))).mon M8)
  have f11 := (((Fst.mon M2).other W7 (Or.inr (slot_ne (Or.inl (hw _ (List.mem_of_getElem? (i := 23) rfl))) (Or.inl (hw _ (List.mem_of_getElem? (i := 42) rfl))) (by decide) (t := .long) (t' := (.object "com/example/manyhands/manyhands/crowd/Totals$Held")) (by decide) (by decide)))).mon M8)
  have f12 := (((Fct.mon M2).other W7 (Or.inr (slot_ne (Or.inl (hw _ (List.mem_of_getElem? (i := 25) rfl))) (Or.inl (hw _ (List.mem_of_getElem? (i := 42) rfl))) (by decide) (t := .long) (t' := (.object "com/example/manyhands/manyhands/crowd/Totals$Held")) (by decide) (by decide)))).mon M8)
  have f13 := (((Fnt.mon M2).other W7 (Or.inr (slot_ne (Or.inl (hw _ (List.mem_of_getElem? (i := 27) rfl))) (Or.inl (hw _ (List.mem_of_getElem? (i := 42) rfl))) (by decide) (t := .long) (t' := (.object "com/example/manyhands/manyhands/crowd/Totals$Held")) (by decide) (by decide)))).mon M8)
  have f14 := (Fw7.mon M8)
  exact ⟨rfl, N7, Kv, Uv _ U_t, ⟨f9, ⟨_, f10⟩, ⟨_, f11⟩, ⟨_, f12⟩, f13, f14⟩⟩
theorem own_pd5 : parseMethodDescriptor "()V" = some ⟨[], none⟩ := by decide +kernel
theorem own_pd6 : parseMethodDescriptor "(I)V" = some ⟨[.int], none⟩ := by decide +kernel
theorem own_pd7 : parseMethodDescriptor "()Lcom/example/manyhands/manyhands/crowd/Totals;" = some ⟨[], some (.object "com/example/manyhands/manyhands/crowd/Totals")⟩ := by decide +kernel
theorem own_pd8 : parseMethodDescriptor "(Lcom/example/manyhands/manyhands/crowd/Totals;)Z" = some ⟨[(.object "com/example/manyhands/manyhands/crowd/Totals")], some .boolean⟩ := by decide +kernel
theorem own_pd9 : parseMethodDescriptor "(II)V" = some ⟨[.int, .int], none⟩ := by decide +kernel
theorem own_pd10 : parseMethodDescriptor "()Lcom/example/manyhands/manyhands/crowd/Totals$Held;" = some ⟨[], some (.object "com/example/manyhands/manyhands/crowd/Totals$Held")⟩ := by decide +kernel
theorem own_pn11 : plainName "com/example/manyhands/manyhands/crowd/TotalsCountedSincePinLaw" = true := by first | (simp [plainName, overriddenIn]; done) | decide +kernel
def Q_rm0 (Z : State) (fi : Int32) (pv : Int32) (qv : Int64) (av : Int32) (wv : Int32) (fl : Int32) (h0 : Heap) (n0 : Nat) (v : Option Value) (h : Heap) (L : List Loc) : Prop := v = some (.int 1) ∧ Fr n0 L
theorem ef_rm0 (m : MethodId) (fi : Int32) (pv : Int32) (qv : Int64) (av : Int32) (wv : Int32) (fl : Int32) : entryFrame m #[(.int fi), (.int pv), (.long qv), (.int av), (.int wv), (.int fl)] maxLocals = mkF m 0 #[.val (.int fi), .val (.int pv), .val (.long qv), .second, .val (.int av), .val (.int wv), .val (.int fl), .unset, .unset, .unset, .unset, .unset, .unset, .unset, .unset] [] := by first | (simp [entryFrame, mkF, argsToLocals, Value.category, maxLocals]; done) | rfl
set_option maxRecDepth 65536 in
set_option maxHeartbeats 40000000 in
theorem rm0 (l : Launch) (Z : State) (a0 : Array Value) (hw : ∀ d ∈ tables_1, d.before a0 Z = true) (ws : List Jvm.Cond) (fi : Int32) (pv : Int32) (qv : Int64) (av : Int32) (wv : Int32) (fl : Int32) (h0 : Heap) (n0 : Nat) (Z0 : n0 ≤ h0.size) :
    MetFree l x (head1 (Jvm.Cond.code x code maxLocals ret :: ws) room_1) (fun ag_ U_ => ag_ = #[(.int fi), (.int pv), (.long qv), (.int av), (.int wv), (.int fl)] ∧ Z.Warmed39 U_.vm ∧ U_.heap = h0) (fun _ _ _ _ _ => True) (fun _ U_ o_ V_ => ∃ v_ L_, o_ = .returned v_ ∧ (Q_rm0 Z fi pv qv av wv fl h0 n0) v_ V_.heap L_ ∧ FrameEnd U_ o_ V_ L_ room_1.cells room_1.slots) := by
  refine MetFree.of_bodySF (plainFor_of_name own_pn11) hisR ?_
  intro p e s m args below meth c s₁ Bd hml0 hP hK
  obtain ⟨rfl, hZ, hh⟩ := hP
  have hx := Bd.exec
  have hby := Bd.bytes
  have hml : c.maxLocals = 15 := hml0
  have hown : s.vm.findClass "com/example/manyhands/manyhands/crowd/TotalsCountedSincePinLaw" = some m.cls := findClass_of_methodNamed Bd.named
  have hnm := (name_of_methodNamed Bd.named Bd.method).1
  have X0 : Stand p l e room_1 s m #[(.int fi), (.int pv), (.long qv), (.int av), (.int wv), (.int fl)] below meth c s₁ [] 0 0 := Stand.of_body Bd
  have e0 : s₁.heap = h0 := by rw [← hh, Bd.state]; rfl
  have N0 := Fr.nil n0
  refine Go.st (G := fun s₂ o_ => ∃ v_ L_, o_ = .returned v_ ∧ (Q_rm0 Z fi pv qv av wv fl h0 n0) v_ s₂.heap L_ ∧ FrameEnd s o_ s₂ L_ room_1.cells room_1.slots) (fun t kt => castTop (ef_rm0 m fi pv qv av wv fl) kt) ?_
  show Go p e below _ (s₁.setTop (mkF m 0 #[.val (.int fi), .val (.int pv), .val (.long qv), .second, .val (.int av), .val (.int wv), .val (.int fl), .unset, .unset, .unset, .unset, .unset, .unset, .unset, .unset] []))
  obtain ⟨T1, h1, X1, e1, E1, A1, D1, U1, st1⟩ := newO X0 hx hZ hown (hw _ (List.mem_of_getElem? (i := 0) rfl)) (hw _ (List.mem_of_getElem? (i := 1) rfl)) (hw _ (List.mem_of_getElem? (i := 2) rfl)) e0 (g := (mkF m 0 #[.val (.int fi), .val (.int pv), .val (.long qv), .second, .val (.int av), .val (.int wv), .val (.int fl), .unset, .unset, .unset, .unset, .unset, .unset, .unset, .unset] [])) rfl (hb hby at_0) (by decide) (by decide)
  obtain ⟨b1, g1⟩ : ∃ z, z = h0.size := ⟨_, rfl⟩
  rw [← g1] at A1 D1 U1 st1
  have gn_b1 : n0 ≤ b1 := Nat.le_trans Z0 (Nat.le_of_eq g1.symm)
  have Zs1 : n0 ≤ h1.size := Nat.le_trans Z0 E1.1
  refine Go.st st1 ?_
  have F1_tasks : Fld Z h1 b1 "com/example/manyhands/manyhands/crowd/Totals" "tasks" "J" (.long (0 : Int64)) := D1 (Or.inl (hw _ (List.mem_of_getElem? (i := 21) rfl))) (ty := .long) (by decide)
  have F1_assignments : Fld Z h1 b1 "com/example/manyhands/manyhands/crowd/Totals" "assignments" "J" (.long (0 : Int64)) := D1 (Or.inl (hw _ (List.mem_of_getElem? (i := 23) rfl))) (ty := .long) (by decide)
  have F1_cents : Fld Z h1 b1 "com/example/manyhands/manyhands/crowd/Totals" "cents" "J" (.long (0 : Int64)) := D1 (Or.inl (hw _ (List.mem_of_getElem? (i := 25) rfl))) (ty := .long) (by decide)
  have F1_counted : Fld Z h1 b1 "com/example/manyhands/manyhands/crowd/Totals" "counted" "J" (.long (0 : Int64)) := D1 (Or.inl (hw _ (List.mem_of_getElem? (i := 27) rfl))) (ty := .long) (by decide)
  have F1_held : Fld Z h1 b1 "com/example/manyhands/manyhands/crowd/Totals" "held" "Lcom/example/manyhands/manyhands/crowd/Totals$Held;" .null := D1 (Or.inl (hw _ (List.mem_of_getElem? (i := 42) rfl))) (ty := (.object "com/example/manyhands/manyhands/crowd/Totals$Held")) (by decide)
  show Go p e below _ (T1.setTop (mkF m 3 #[.val (.int fi), .val (.int pv), .val (.long qv), .second, .val (.int av), .val (.int wv), .val (.int fl), .unset, .unset, .unset, .unset, .unset, .unset, .unset, .unset] [(.ref b1)]))
  refine Go.st (fun _ kt => XS.dup X1.here hx rfl (hb hby at_3) rfl rfl kt) ?_
  show Go p e below _ (T1.setTop (mkF m 4 #[.val (.int fi), .val (.int pv), .val (.long qv), .second, .val (.int av), .val (.int wv), .val (.int fl), .unset, .unset, .unset, .unset, .unset, .unset, .unset, .unset] [(.ref b1), (.ref b1)]))
  obtain ⟨_, _, ⟨T2, L2, k2, n2⟩, -, X2, ⟨Lc2, hQ2, l2, y2, z2⟩, st2⟩ := X1.specialBack hx (y := (⟨"com/example/manyhands/manyhands/crowd/Totals", "<init>", "()V"⟩ : MethodName)) rfl hown (mvT hZ (hw _ (List.mem_of_getElem? (i := 3) rfl))) (mvT hZ (hw _ (List.mem_of_getElem? (i := 4) rfl))) (mvT hZ (hw _ (List.mem_of_getElem? (i := 5) rfl))) (by decide) (backOf (W := 1) (rm1 l Z a0 hw [] b1 h1 n0 Zs1) hZ (hw _ (List.mem_of_getElem? (i := 5) rfl)) (hw _ (List.mem_of_getElem? (i := 2) rfl)) (by decide) (by decide)) (g := (mkF m 4 #[.val (.int fi), .val (.int pv), .val (.long qv), .second, .val (.int av), .val (.int wv), .val (.int fl), .unset, .unset, .unset, .unset, .unset, .unset, .unset, .unset] [(.ref b1), (.ref b1)])) rfl (by rw [hml]; rfl) (Steps.refl _) (a := b1) (argsL := []) (rest := [(.ref b1)]) (lenOf own_pd5 rfl) rfl (by show 2 * 0 + _ ≤ _; exact Nat.le_of_eq rfl) (hb hby at_4) (fun _ _ => ⟨rfl, e1, (by decide : 1 + 0 ≤ _), (by decide : 5 + 0 ≤ _)⟩)
  dsimp only [Pt.U, Pt.locs, Pt.cells, Pt.slots] at X2 l2 y2 z2 st2 hQ2
  subst l2 y2 z2
  obtain ⟨rfl, N2q, e2⟩ := hQ2
  have N2 := Fr.app N0 N2q
  refine Go.tr st2 ?_
  show Go p e below _ (T2.setTop (mkF m 7 #[.val (.int fi), .val (.int pv), .val (.long qv), .second, .val (.int av), .val (.int wv), .val (.int fl), .unset, .unset, .unset, .unset, .unset, .unset, .unset, .unset] [(.ref b1)]))
  refine Go.st (fun _ kt => XS.astore X2.here hx rfl (hb hby at_7) rfl rfl (l' := #[.val (.int fi), .val (.int pv), .val (.long qv), .second, .val (.int av), .val (.int wv), .val (.int fl), .val (.ref b1), .unset, .unset, .unset, .unset, .unset, .unset, .unset]) rfl kt) ?_
  show Go p e below _ (T2.setTop (mkF m 9 #[.val (.int fi), .val (.int pv), .val (.long qv), .second, .val (.int av), .val (.int wv), .val (.int fl), .val (.ref b1), .unset, .unset, .unset, .unset, .unset, .unset, .unset] []))
  refine Go.st (fun _ kt => XS.aload X2.here hx rfl (hb hby at_9) rfl rfl kt) ?_
  show Go p e below _ (T2.setTop (mkF m 11 #[.val (.int fi), .val (.int pv), .val (.long qv), .second, .val (.int av), .val (.int wv), .val (.int fl), .val (.ref b1), .unset, .unset, .unset, .unset, .unset, .unset, .unset] [(.ref b1)]))
  refine Go.st (fun _ kt => XS.iloadN X2.here hx rfl (hb hby at_11) rfl kt) ?_
  show Go p e below _ (T2.setTop (mkF m 12 #[.val (.int fi), .val (.int pv), .val (.long qv), .second, .val (.int av), .val (.int wv), .val (.int fl), .val (.ref b1), .unset, .unset, .unset, .unset, .unset, .unset, .unset] [(.int fi), (.ref b1)]))
  obtain ⟨cq3, kq3, q3a, q3b, q3c⟩ := isOf hZ e2 A1
  obtain ⟨_, _, ⟨T3, L3, k3, n3⟩, -, X3, ⟨Lc3, hQ3, l3, y3, z3⟩, st3⟩ := X2.virtualBack hx (y := (⟨"com/example/manyhands/manyhands/crowd/Totals", "addTasks", "(I)V"⟩ : MethodName)) (z := (⟨"com/example/manyhands/manyhands/crowd/Totals", "addTasks", "(I)V"⟩ : MethodName)) hown (mvT hZ (hw _ (List.mem_of_getElem? (i := 9) rfl))) (mvT hZ (hw _ (List.mem_of_getElem? (i := 10) rfl))) (notFace_of_selects (args := #[]) (mvT hZ (hw _ (List.mem_of_getElem? (i := 12) rfl)))) (mvT hZ (hw _ (List.mem_of_getElem? (i := 12) rfl))) (mvT hZ (hw _ (List.mem_of_getElem? (i := 11) rfl))) (by decide) (own_backSync (W := 0) (rm3 l Z a0 hw [] b1 fi (0 : Int64) .null h1 n0 Zs1 ⟨A1, ⟨_, F1_tasks⟩, ⟨_, F1_assignments⟩, ⟨_, F1_cents⟩, F1_counted, F1_held⟩ U1 gn_b1) hZ (hw _ (List.mem_of_getElem? (i := 13) rfl)) (hw _ (List.mem_of_getElem? (i := 11) rfl)) (hw _ (List.mem_of_getElem? (i := 2) rfl)) U1 (by decide) (by decide)) q3a q3c (g := (mkF m 12 #[.val (.int fi), .val (.int pv), .val (.long qv), .second, .val (.int av), .val (.int wv), .val (.int fl), .val (.ref b1), .unset, .unset, .unset, .unset, .unset, .unset, .unset] [(.int fi), (.ref b1)])) rfl (by rw [hml]; rfl) (Steps.refl _) (argsL := [(.int fi)]) (rest := []) (lenOf own_pd6 rfl) rfl (by show 2 * 0 + _ ≤ _; exact Nat.le_of_eq rfl) (hb hby at_12) (fun _ _ => ⟨rfl, e2, (by decide : 1 + 0 ≤ _), (by decide : 5 + 0 ≤ _)⟩)
  dsimp only [Pt.U, Pt.locs, Pt.cells, Pt.slots] at X3 l3 y3 z3 st3 hQ3
  subst l3 y3 z3
  obtain ⟨rfl, N3q, K3q, U3q, P3⟩ := hQ3
  have Zs3 : n0 ≤ T3.heap.size := Nat.le_trans Zs1 K3q.1
  have N3 := Fr.app N2 N3q
  obtain ⟨E_k3, ⟨ztk3, Ftk3⟩, ⟨zsk3, Fsk3⟩, ⟨zck3, Fck3⟩, Fnk3, Fhk3⟩ := id P3
  refine Go.tr st3 ?_
  show Go p e below _ (T3.setTop (mkF m 15 #[.val (.int fi), .val (.int pv), .val (.long qv), .second, .val (.int av), .val (.int wv), .val (.int fl), .val (.ref b1), .unset, .unset, .unset, .unset, .unset, .unset, .unset] []))
  refine Go.st (fun _ kt => XS.aload X3.here hx rfl (hb hby at_15) rfl rfl kt) ?_
  show Go p e below _ (T3.setTop (mkF m 17 #[.val (.int fi), .val (.int pv), .val (.long qv), .second, .val (.int av), .val (.int wv), .val (.int fl), .val (.ref b1), .unset, .unset, .unset, .unset, .unset, .unset, .unset] [(.ref b1)]))
  obtain ⟨cq4, kq4, q4a, q4b, q4c⟩ := isOf hZ rfl E_k3
  obtain ⟨_, _, ⟨T4, L4, k4, n4⟩, -, X4, ⟨Lc4, hQ4, l4, y4, z4⟩, st4⟩ := X3.virtualBack hx (y := (⟨"com/example/manyhands/manyhands/crowd/Totals", "copy", "()Lcom/example/manyhands/manyhands/crowd/Totals;"⟩ : MethodName)) (z := (⟨"com/example/manyhands/manyhands/crowd/Totals", "copy", "()Lcom/example/manyhands/manyhands/crowd/Totals;"⟩ : MethodName)) hown (mvT hZ (hw _ (List.mem_of_getElem? (i := 14) rfl))) (mvT hZ (hw _ (List.mem_of_getElem? (i := 15) rfl))) (notFace_of_selects (args := #[]) (mvT hZ (hw _ (List.mem_of_getElem? (i := 17) rfl)))) (mvT hZ (hw _ (List.mem_of_getElem? (i := 17) rfl))) (mvT hZ (hw _ (List.mem_of_getElem? (i := 16) rfl))) (by decide) (own_backSync (W := 0) (rm4 l Z a0 hw [] b1 (own_c0 fi (0 : Int64)) .null T3.heap n0 Zs3 ⟨E_k3, ⟨_, Ftk3⟩, ⟨_, Fsk3⟩, ⟨_, Fck3⟩, Fnk3, Fhk3⟩ U3q gn_b1) hZ (hw _ (List.mem_of_getElem? (i := 18) rfl)) (hw _ (List.mem_of_getElem? (i := 16) rfl)) (hw _ (List.mem_of_getElem? (i := 2) rfl)) U3q (by decide) (by decide)) q4a q4c (g := (mkF m 17 #[.val (.int fi), .val (.int pv), .val (.long qv), .second, .val (.int av), .val (.int wv), .val (.int fl), .val (.ref b1), .unset, .unset, .unset, .unset, .unset, .unset, .unset] [(.ref b1)])) rfl (by rw [hml]; rfl) (Steps.refl _) (argsL := []) (rest := []) (lenOf own_pd7 rfl) rfl (by show 2 * 0 + _ ≤ _; exact Nat.le_of_eq rfl) (hb hby at_17) (fun _ _ => ⟨rfl, rfl, (by decide : 1 + 1 ≤ _), (by decide : 5 + 5 ≤ _)⟩)
  dsimp only [Pt.U, Pt.locs, Pt.cells, Pt.slots] at X4 l4 y4 z4 st4 hQ4
  subst l4 y4 z4
  obtain ⟨bc4, rfl, N4q, K4q, U4q, gz4, Fx4⟩ := hQ4
  have lt_b1_bc4 : b1 < bc4 := Nat.lt_of_lt_of_le E_k3.lt gz4
  have gn_bc4 : n0 ≤ bc4 := Nat.le_trans Zs3 gz4
  have Zs4 : n0 ≤ T4.heap.size := Nat.le_trans Zs3 K4q.1
  have N4 := Fr.app N3 N4q
  refine Go.tr st4 ?_
  show Go p e below _ (T4.setTop (mkF m 20 #[.val (.int fi), .val (.int pv), .val (.long qv), .second, .val (.int av), .val (.int wv), .val (.int fl), .val (.ref b1), .unset, .unset, .unset, .unset, .unset, .unset, .unset] [(.ref bc4)]))
  refine Go.st (fun _ kt => XS.astore X4.here hx rfl (hb hby at_20) rfl rfl (l' := #[.val (.int fi), .val (.int pv), .val (.long qv), .second, .val (.int av), .val (.int wv), .val (.int fl), .val (.ref b1), .val (.ref bc4), .unset, .unset, .unset, .unset, .unset, .unset]) rfl kt) ?_
  show Go p e below _ (T4.setTop (mkF m 22 #[.val (.int fi), .val (.int pv), .val (.long qv), .second, .val (.int av), .val (.int wv), .val (.int fl), .val (.ref b1), .val (.ref bc4), .unset, .unset, .unset, .unset, .unset, .unset] []))
  refine Go.st (fun _ kt => XS.aload X4.here hx rfl (hb hby at_22) rfl rfl kt) ?_
  show Go p e below _ (T4.setTop (mkF m 24 #[.val (.int fi), .val (.int pv), .val (.long qv), .second, .val (.int av), .val (.int wv), .val (.int fl), .val (.ref b1), .val (.ref bc4), .unset, .unset, .unset, .unset, .unset, .unset] [(.ref b1)]))
  refine Go.st (fun _ kt => XS.aload X4.here hx rfl (hb hby at_24) rfl rfl kt) ?_
  show Go p e below _ (T4.setTop (mkF m 26 #[.val (.int fi), .val (.int pv), .val (.long qv), .second, .val (.int av), .val (.int wv), .val (.int fl), .val (.ref b1), .val (.ref bc4), .unset, .unset, .unset, .unset, .unset, .unset] [(.ref bc4), (.ref b1)]))
  have f5 := (Fnk3.keep K4q nin0)
  have f7 := (E_k3.keep K4q)
  obtain ⟨cq6, kq6, q6a, q6b, q6c⟩ := isOf hZ rfl f7
  obtain ⟨_, _, ⟨T6, L6, k6, n6⟩, -, X6, ⟨Lc6, hQ6, l6, y6, z6⟩, st6⟩ := X4.virtualBack hx (y := (⟨"com/example/manyhands/manyhands/crowd/Totals", "countedSince", "(Lcom/example/manyhands/manyhands/crowd/Totals;)Z"⟩ : MethodName)) (z := (⟨"com/example/manyhands/manyhands/crowd/Totals", "countedSince", "(Lcom/example/manyhands/manyhands/crowd/Totals;)Z"⟩ : MethodName)) hown (mvT hZ (hw _ (List.mem_of_getElem? (i := 31) rfl))) (mvT hZ (hw _ (List.mem_of_getElem? (i := 32) rfl))) (notFace_of_selects (args := #[]) (mvT hZ (hw _ (List.mem_of_getElem? (i := 34) rfl)))) (mvT hZ (hw _ (List.mem_of_getElem? (i := 34) rfl))) (mvT hZ (hw _ (List.mem_of_getElem? (i := 33) rfl))) (by decide) (backOf (W := 0) (rm6e l Z a0 hw [] b1 bc4 (own_c0 fi (0 : Int64)) (own_c0 fi (0 : Int64)) T4.heap n0 Zs4 f5 Fx4 rfl) hZ (hw _ (List.mem_of_getElem? (i := 35) rfl)) (hw _ (List.mem_of_getElem? (i := 2) rfl)) (by decide) (by decide)) q6a q6c (g := (mkF m 26 #[.val (.int fi), .val (.int pv), .val (.long qv), .second, .val (.int av), .val (.int wv), .val (.int fl), .val (.ref b1), .val (.ref bc4), .unset, .unset, .unset, .unset, .unset, .unset] [(.ref bc4), (.ref b1)])) rfl (by rw [hml]; rfl) (Steps.refl _) (argsL := [(.ref bc4)]) (rest := []) (lenOf own_pd8 rfl) rfl (by show 2 * 0 + _ ≤ _; exact Nat.le_of_eq rfl) (hb hby at_26) (fun _ _ => ⟨rfl, rfl, (by decide : 2 + 0 ≤ _), (by decide : 10 + 0 ≤ _)⟩)
  dsimp only [Pt.U, Pt.locs, Pt.cells, Pt.slots] at X6 l6 y6 z6 st6 hQ6
  subst l6 y6 z6
  obtain ⟨rfl, N6q, e6⟩ := hQ6
  have N6 := Fr.app N4 N6q
  refine Go.tr st6 ?_
  show Go p e below _ (T6.setTop (mkF m 29 #[.val (.int fi), .val (.int pv), .val (.long qv), .second, .val (.int av), .val (.int wv), .val (.int fl), .val (.ref b1), .val (.ref bc4), .unset, .unset, .unset, .unset, .unset, .unset] [(.int (0 : Int32))]))
  refine Go.st (fun _ kt => XS.ifNo X6.here hx rfl (hb hby at_29) rfl ((if0 _ _).trans (teq (by decide : (0 : Int32) = (0 : Int32))).2) kt) ?_
  show Go p e below _ (T6.setTop (mkF m 32 #[.val (.int fi), .val (.int pv), .val (.long qv), .second, .val (.int av), .val (.int wv), .val (.int fl), .val (.ref b1), .val (.ref bc4), .unset, .unset, .unset, .unset, .unset, .unset] []))
  refine Go.st (fun _ kt => XS.iconst X6.here hx rfl (hb hby at_32) kt) ?_
  show Go p e below _ (T6.setTop (mkF m 33 #[.val (.int fi), .val (.int pv), .val (.long qv), .second, .val (.int av), .val (.int wv), .val (.int fl), .val (.ref b1), .val (.ref bc4), .unset, .unset, .unset, .unset, .unset, .unset] [(.int (1 : Int32))]))
  refine Go.st (fun _ kt => XS.goto X6.here hx rfl (pc0 := 33) (pc' := 37) rfl (hb hby at_33) (by decide) (by decide) kt) ?_
  show Go p e below _ (T6.setTop (mkF m 37 #[.val (.int fi), .val (.int pv), .val (.long qv), .second, .val (.int av), .val (.int wv), .val (.int fl), .val (.ref b1), .val (.ref bc4), .unset, .unset, .unset, .unset, .unset, .unset] [(.int (1 : Int32))]))
  refine Go.st (fun _ kt => XS.istore X6.here hx rfl (hb hby at_37) rfl (l' := #[.val (.int fi), .val (.int pv), .val (.long qv), .second, .val (.int av), .val (.int wv), .val (.int fl), .val (.ref b1), .val (.ref bc4), .val (.int (1 : Int32)), .unset, .unset, .unset, .unset, .unset]) rfl kt) ?_
  show Go p e below _ (T6.setTop (mkF m 39 #[.val (.int fi), .val (.int pv), .val (.long qv), .second, .val (.int av), .val (.int wv), .val (.int fl), .val (.ref b1), .val (.ref bc4), .val (.int (1 : Int32)), .unset, .unset, .unset, .unset, .unset] []))
  refine Go.st (fun _ kt => XS.iload X6.here hx rfl (hb hby at_39) rfl kt) ?_
  show Go p e below _ (T6.setTop (mkF m 41 #[.val (.int fi), .val (.int pv), .val (.long qv), .second, .val (.int av), .val (.int wv), .val (.int fl), .val (.ref b1), .val (.ref bc4), .val (.int (1 : Int32)), .unset, .unset, .unset, .unset, .unset] [(.int fl)]))
  refine Go.st (fun _ kt => XS.iconst X6.here hx rfl (hb hby at_41) kt) ?_
  show Go p e below _ (T6.setTop (mkF m 42 #[.val (.int fi), .val (.int pv), .val (.long qv), .second, .val (.int av), .val (.int wv), .val (.int fl), .val (.ref b1), .val (.ref bc4), .val (.int (1 : Int32)), .unset, .unset, .unset, .unset, .unset] [(.int (1 : Int32)), (.int fl)]))
  refine Go.st (fun _ kt => XS.iand X6.here hx rfl (hb hby at_42) rfl kt) ?_
  show Go p e below _ (T6.setTop (mkF m 43 #[.val (.int fi), .val (.int pv), .val (.long qv), .second, .val (.int av), .val (.int wv), .val (.int fl), .val (.ref b1), .val (.ref bc4), .val (.int (1 : Int32)), .unset, .unset, .unset, .unset, .unset] [(.int (fl &&& (1 : Int32)))]))
  by_cases hc43_8 : (fl &&& (1 : Int32)) = (0 : Int32)
  · refine Go.st (fun _ kt => XS.ifYes X6.here hx rfl (pc0 := 43) (pc' := 50) rfl (hb hby at_43) rfl ((if0 _ _).trans (teq hc43_8).1) (by decide) (by decide) kt) ?_
    show Go p e below _ (T6.setTop (mkF m 50 #[.val (.int fi), .val (.int pv), .val (.long qv), .second, .val (.int av), .val (.int wv), .val (.int fl), .val (.ref b1), .val (.ref bc4), .val (.int (1 : Int32)), .unset, .unset, .unset, .unset, .unset] []))
    refine Go.st (fun _ kt => XS.iconst X6.here hx rfl (hb hby at_50) kt) ?_
    show Go p e below _ (T6.setTop (mkF m 51 #[.val (.int fi), .val (.int pv), .val (.long qv), .second, .val (.int av), .val (.int wv), .val (.int fl), .val (.ref b1), .val (.ref bc4), .val (.int (1 : Int32)), .unset, .unset, .unset, .unset, .unset] [(.int (0 : Int32))]))
    refine Go.st (fun _ kt => XS.istore X6.here hx rfl (hb hby at_51) rfl (l' := #[.val (.int fi), .val (.int pv), .val (.long qv), .second, .val (.int av), .val (.int wv), .val (.int fl), .val (.ref b1), .val (.ref bc4), .val (.int (1 : Int32)), .val (.int (0 : Int32)), .unset, .unset, .unset, .unset]) rfl kt) ?_
    show Go p e below _ (T6.setTop (mkF m 53 #[.val (.int fi), .val (.int pv), .val (.long qv), .second, .val (.int av), .val (.int wv), .val (.int fl), .val (.ref b1), .val (.ref bc4), .val (.int (1 : Int32)), .val (.int (0 : Int32)), .unset, .unset, .unset, .unset] []))
    refine Go.st (fun _ kt => XS.iload X6.here hx rfl (hb hby at_53) rfl kt) ?_
    show Go p e below _ (T6.setTop (mkF m 55 #[.val (.int fi), .val (.int pv), .val (.long qv), .second, .val (.int av), .val (.int wv), .val (.int fl), .val (.ref b1), .val (.ref bc4), .val (.int (1 : Int32)), .val (.int (0 : Int32)), .unset, .unset, .unset, .unset] [(.int fl)]))
    refine Go.st (fun _ kt => XS.iconst X6.here hx rfl (hb hby at_55) kt) ?_
    show Go p e below _ (T6.setTop (mkF m 56 #[.val (.int fi), .val (.int pv), .val (.long qv), .second, .val (.int av), .val (.int wv), .val (.int fl), .val (.ref b1), .val (.ref bc4), .val (.int (1 : Int32)), .val (.int (0 : Int32)), .unset, .unset, .unset, .unset] [(.int (2 : Int32)), (.int fl)]))
    refine Go.st (fun _ kt => XS.iand X6.here hx rfl (hb hby at_56) rfl kt) ?_
    show Go p e below _ (T6.setTop (mkF m 57 #[.val (.int fi), .val (.int pv), .val (.long qv), .second, .val (.int av), .val (.int wv), .val (.int fl), .val (.ref b1), .val (.ref bc4), .val (.int (1 : Int32)), .val (.int (0 : Int32)), .unset, .unset, .unset, .unset] [(.int (fl &&& (2 : Int32)))]))
    by_cases hc57_9 : (fl &&& (2 : Int32)) = (0 : Int32)
    · refine Go.st (fun _ kt => XS.ifYes X6.here hx rfl (pc0 := 57) (pc' := 64) rfl (hb hby at_57) rfl ((if0 _ _).trans (teq hc57_9).1) (by decide) (by decide) kt) ?_
      show Go p e below _ (T6.setTop (mkF m 64 #[.val (.int fi), .val (.int pv), .val (.long qv), .second, .val (.int av), .val (.int wv), .val (.int fl), .val (.ref b1), .val (.ref bc4), .val (.int (1 : Int32)), .val (.int (0 : Int32)), .unset, .unset, .unset, .unset] []))
      refine Go.st (fun _ kt => XS.iconst X6.here hx rfl (hb hby at_64) kt) ?_
      show Go p e below _ (T6.setTop (mkF m 65 #[.val (.int fi), .val (.int pv), .val (.long qv), .second, .val (.int av), .val (.int wv), .val (.int fl), .val (.ref b1), .val (.ref bc4), .val (.int (1 : Int32)), .val (.int (0 : Int32)), .unset, .unset, .unset, .unset] [(.int (0 : Int32))]))
      refine Go.st (fun _ kt => XS.istore X6.here hx rfl (hb hby at_65) rfl (l' := #[.val (.int fi), .val (.int pv), .val (.long qv), .second, .val (.int av), .val (.int wv), .val (.int fl), .val (.ref b1), .val (.ref bc4), .val (.int (1 : Int32)), .val (.int (0 : Int32)), .val (.int (0 : Int32)), .unset, .unset, .unset]) rfl kt) ?_
      show Go p e below _ (T6.setTop (mkF m 67 #[.val (.int fi), .val (.int pv), .val (.long qv), .second, .val (.int av), .val (.int wv), .val (.int fl), .val (.ref b1), .val (.ref bc4), .val (.int (1 : Int32)), .val (.int (0 : Int32)), .val (.int (0 : Int32)), .unset, .unset, .unset] []))
      refine Go.st (fun _ kt => XS.aconstNull X6.here hx rfl (hb hby at_67) kt) ?_
      show Go p e below _ (T6.setTop (mkF m 68 #[.val (.int fi), .val (.int pv), .val (.long qv), .second, .val (.int av), .val (.int wv), .val (.int fl), .val (.ref b1), .val (.ref bc4), .val (.int (1 : Int32)), .val (.int (0 : Int32)), .val (.int (0 : Int32)), .unset, .unset, .unset] [.null]))
      refine Go.st (fun _ kt => XS.astore X6.here hx rfl (hb hby at_68) rfl rfl (l' := #[.val (.int fi), .val (.int pv), .val (.long qv), .second, .val (.int av), .val (.int wv), .val (.int fl), .val (.ref b1), .val (.ref bc4), .val (.int (1 : Int32)), .val (.int (0 : Int32)), .val (.int (0 : Int32)), .val .null, .unset, .unset]) rfl kt) ?_
      show Go p e below _ (T6.setTop (mkF m 70 #[.val (.int fi), .val (.int pv), .val (.long qv), .second, .val (.int av), .val (.int wv), .val (.int fl), .val (.ref b1), .val (.ref bc4), .val (.int (1 : Int32)), .val (.int (0 : Int32)), .val (.int (0 : Int32)), .val .null, .unset, .unset] []))
      refine Go.st (fun _ kt => XS.iload X6.here hx rfl (hb hby at_70) rfl kt) ?_
      show Go p e below _ (T6.setTop (mkF m 72 #[.val (.int fi), .val (.int pv), .val (.long qv), .second, .val (.int av), .val (.int wv), .val (.int fl), .val (.ref b1), .val (.ref bc4), .val (.int (1 : Int32)), .val (.int (0 : Int32)), .val (.int (0 : Int32)), .val .null, .unset, .unset] [(.int (0 : Int32))]))
      refine Go.st (fun _ kt => XS.ifYes X6.here hx rfl (pc0 := 72) (pc' := 82) rfl (hb hby at_72) rfl ((if0 _ _).trans (teq (by decide : (0 : Int32) = (0 : Int32))).1) (by decide) (by decide) kt) ?_
      show Go p e below _ (T6.setTop (mkF m 82 #[.val (.int fi), .val (.int pv), .val (.long qv), .second, .val (.int av), .val (.int wv), .val (.int fl), .val (.ref b1), .val (.ref bc4), .val (.int (1 : Int32)), .val (.int (0 : Int32)), .val (.int (0 : Int32)), .val .null, .unset, .unset] []))
      refine Go.st (fun _ kt => XS.aload X6.here hx rfl (hb hby at_82) rfl rfl kt) ?_
      show Go p e below _ (T6.setTop (mkF m 84 #[.val (.int fi), .val (.int pv), .val (.long qv), .second, .val (.int av), .val (.int wv), .val (.int fl), .val (.ref b1), .val (.ref bc4), .val (.int (1 : Int32)), .val (.int (0 : Int32)), .val (.int (0 : Int32)), .val .null, .unset, .unset] [(.ref b1)]))
      refine Go.st (fun _ kt => XS.iloadN X6.here hx rfl (hb hby at_84) rfl kt) ?_
      show Go p e below _ (T6.setTop (mkF m 85 #[.val (.int fi), .val (.int pv), .val (.long qv), .second, .val (.int av), .val (.int wv), .val (.int fl), .val (.ref b1), .val (.ref bc4), .val (.int (1 : Int32)), .val (.int (0 : Int32)), .val (.int (0 : Int32)), .val .null, .unset, .unset] [(.int pv), (.ref b1)]))
      have f10 := (Ftk3.keep K4q nin0)
      have f11 := (Fsk3.keep K4q nin0)
      have f12 := (Fck3.keep K4q nin0)
      have f13 := (Fhk3.keep K4q nin0)
      obtain ⟨cq14, kq14, q14a, q14b, q14c⟩ := isOf hZ e6 f7
      obtain ⟨_, _, ⟨T14, L14, k14, n14⟩, -, X14, ⟨Lc14, hQ14, l14, y14, z14⟩, st14⟩ := X6.virtualBack hx (y := (⟨"com/example/manyhands/manyhands/crowd/Totals", "addTasks", "(I)V"⟩ : MethodName)) (z := (⟨"com/example/manyhands/manyhands/crowd/Totals", "addTasks", "(I)V"⟩ : MethodName)) hown (mvT hZ (hw _ (List.mem_of_getElem? (i := 9) rfl))) (mvT hZ (hw _ (List.mem_of_getElem? (i := 10) rfl))) (notFace_of_selects (args := #[]) (mvT hZ (hw _ (List.mem_of_getElem? (i := 12) rfl)))) (mvT hZ (hw _ (List.mem_of_getElem? (i := 12) rfl))) (mvT hZ (hw _ (List.mem_of_getElem? (i := 11) rfl))) (by decide) (own_backSync (W := 0) (rm3 l Z a0 hw [] b1 pv (own_c0 fi (0 : Int64)) .null T4.heap n0 Zs4 ⟨f7, ⟨_, f10⟩, ⟨_, f11⟩, ⟨_, f12⟩, f5, f13⟩ U4q gn_b1) hZ (hw _ (List.mem_of_getElem? (i := 13) rfl)) (hw _ (List.mem_of_getElem? (i := 11) rfl)) (hw _ (List.mem_of_getElem? (i := 2) rfl)) U4q (by decide) (by decide)) q14a q14c (g := (mkF m 85 #[.val (.int fi), .val (.int pv), .val (.long qv), .second, .val (.int av), .val (.int wv), .val (.int fl), .val (.ref b1), .val (.ref bc4), .val (.int (1 : Int32)), .val (.int (0 : Int32)), .val (.int (0 : Int32)), .val .null, .unset, .unset] [(.int pv), (.ref b1)])) rfl (by rw [hml]; rfl) (Steps.refl _) (argsL := [(.int pv)]) (rest := []) (lenOf own_pd6 rfl) rfl (by show 2 * 0 + _ ≤ _; exact Nat.le_of_eq rfl) (hb hby at_85) (fun _ _ => ⟨rfl, e6, (by decide : 2 + 0 ≤ _), (by decide : 10 + 0 ≤ _)⟩)
      dsimp only [Pt.U, Pt.locs, Pt.cells, Pt.slots] at X14 l14 y14 z14 st14 hQ14
      subst l14 y14 z14
      obtain ⟨rfl, N14q, K14q, U14q, P14⟩ := hQ14
      have Zs14 : n0 ≤ T14.heap.size := Nat.le_trans Zs4 K14q.1
      have N14 := Fr.app N6 N14q
      obtain ⟨E_k14, ⟨ztk14, Ftk14⟩, ⟨zsk14, Fsk14⟩, ⟨zck14, Fck14⟩, Fnk14, Fhk14⟩ := id P14
      refine Go.tr st14 ?_
      show Go p e below _ (T14.setTop (mkF m 88 #[.val (.int fi), .val (.int pv), .val (.long qv), .second, .val (.int av), .val (.int wv), .val (.int fl), .val (.ref b1), .val (.ref bc4), .val (.int (1 : Int32)), .val (.int (0 : Int32)), .val (.int (0 : Int32)), .val .null, .unset, .unset] []))
      refine Go.st (fun _ kt => XS.aload X14.here hx rfl (hb hby at_88) rfl rfl kt) ?_
      show Go p e below _ (T14.setTop (mkF m 90 #[.val (.int fi), .val (.int pv), .val (.long qv), .second, .val (.int av), .val (.int wv), .val (.int fl), .val (.ref b1), .val (.ref bc4), .val (.int (1 : Int32)), .val (.int (0 : Int32)), .val (.int (0 : Int32)), .val .null, .unset, .unset] [(.ref b1)]))
      refine Go.st (fun _ kt => XS.iload X14.here hx rfl (hb hby at_90) rfl kt) ?_
      show Go p e below _ (T14.setTop (mkF m 92 #[.val (.int fi), .val (.int pv), .val (.long qv), .second, .val (.int av), .val (.int wv), .val (.int fl), .val (.ref b1), .val (.ref bc4), .val (.int (1 : Int32)), .val (.int (0 : Int32)), .val (.int (0 : Int32)), .val .null, .unset, .unset] [(.int av), (.ref b1)]))
      refine Go.st (fun _ kt => XS.iload X14.here hx rfl (hb hby at_92) rfl kt) ?_
      show Go p e below _ (T14.setTop (mkF m 94 #[.val (.int fi), .val (.int pv), .val (.long qv), .second, .val (.int av), .val (.int wv), .val (.int fl), .val (.ref b1), .val (.ref bc4), .val (.int (1 : Int32)), .val (.int (0 : Int32)), .val (.int (0 : Int32)), .val .null, .unset, .unset] [(.int wv), (.int av), (.ref b1)]))
      obtain ⟨cq15, kq15, q15a, q15b, q15c⟩ := isOf hZ rfl E_k14
      obtain ⟨_, _, ⟨T15, L15, k15, n15⟩, -, X15, ⟨Lc15, hQ15, l15, y15, z15⟩, st15⟩ := X14.virtualBack hx (y := (⟨"com/example/manyhands/manyhands/crowd/Totals", "addAnswers", "(II)V"⟩ : MethodName)) (z := (⟨"com/example/manyhands/manyhands/crowd/Totals", "addAnswers", "(II)V"⟩ : MethodName)) hown (mvT hZ (hw _ (List.mem_of_getElem? (i := 36) rfl))) (mvT hZ (hw _ (List.mem_of_getElem? (i := 37) rfl))) (notFace_of_selects (args := #[]) (mvT hZ (hw _ (List.mem_of_getElem? (i := 39) rfl)))) (mvT hZ (hw _ (List.mem_of_getElem? (i := 39) rfl))) (mvT hZ (hw _ (List.mem_of_getElem? (i := 38) rfl))) (by decide) (own_backSync (W := 0) (rm7n l Z a0 hw [] b1 av wv (own_c0 pv (own_c0 fi (0 : Int64))) T14.heap n0 Zs14 ⟨E_k14, ⟨_, Ftk14⟩, ⟨_, Fsk14⟩, ⟨_, Fck14⟩, Fnk14, Fhk14⟩ U14q gn_b1) hZ (hw _ (List.mem_of_getElem? (i := 40) rfl)) (hw _ (List.mem_of_getElem? (i := 38) rfl)) (hw _ (List.mem_of_getElem? (i := 2) rfl)) U14q (by decide) (by decide)) q15a q15c (g := (mkF m 94 #[.val (.int fi), .val (.int pv), .val (.long qv), .second, .val (.int av), .val (.int wv), .val (.int fl), .val (.ref b1), .val (.ref bc4), .val (.int (1 : Int32)), .val (.int (0 : Int32)), .val (.int (0 : Int32)), .val .null, .unset, .unset] [(.int wv), (.int av), (.ref b1)])) rfl (by rw [hml]; rfl) (Steps.refl _) (argsL := [(.int av), (.int wv)]) (rest := []) (lenOf own_pd9 rfl) rfl (by show 2 * 0 + _ ≤ _; exact Nat.le_of_eq rfl) (hb hby at_94) (fun _ _ => ⟨rfl, rfl, (by decide : 2 + 0 ≤ _), (by decide : 10 + 0 ≤ _)⟩)
      dsimp only [Pt.U, Pt.locs, Pt.cells, Pt.slots] at X15 l15 y15 z15 st15 hQ15
      subst l15 y15 z15
      obtain ⟨rfl, N15q, K15q, U15q, P15⟩ := hQ15
      have Zs15 : n0 ≤ T15.heap.size := Nat.le_trans Zs14 K15q.1
      have N15 := Fr.app N14 N15q
      obtain ⟨E_k15, ⟨ztk15, Ftk15⟩, ⟨zsk15, Fsk15⟩, ⟨zck15, Fck15⟩, Fnk15, Fhk15⟩ := id P15
      refine Go.tr st15 ?_
      show Go p e below _ (T15.setTop (mkF m 97 #[.val (.int fi), .val (.int pv), .val (.long qv), .second, .val (.int av), .val (.int wv), .val (.int fl), .val (.ref b1), .val (.ref bc4), .val (.int (1 : Int32)), .val (.int (0 : Int32)), .val (.int (0 : Int32)), .val .null, .unset, .unset] []))
      refine Go.st (fun _ kt => XS.aload X15.here hx rfl (hb hby at_97) rfl rfl kt) ?_
      show Go p e below _ (T15.setTop (mkF m 99 #[.val (.int fi), .val (.int pv), .val (.long qv), .second, .val (.int av), .val (.int wv), .val (.int fl), .val (.ref b1), .val (.ref bc4), .val (.int (1 : Int32)), .val (.int (0 : Int32)), .val (.int (0 : Int32)), .val .null, .unset, .unset] [(.ref b1)]))
      refine Go.st (fun _ kt => XS.lloadN X15.here hx rfl (hb hby at_99) rfl kt) ?_
      show Go p e below _ (T15.setTop (mkF m 100 #[.val (.int fi), .val (.int pv), .val (.long qv), .second, .val (.int av), .val (.int wv), .val (.int fl), .val (.ref b1), .val (.ref bc4), .val (.int (1 : Int32)), .val (.int (0 : Int32)), .val (.int (0 : Int32)), .val .null, .unset, .unset] [(.long qv), (.ref b1)]))
      refine Go.st (fun _ kt => XS.lconst X15.here hx rfl (hb hby at_100) kt) ?_
      show Go p e below _ (T15.setTop (mkF m 101 #[.val (.int fi), .val (.int pv), .val (.long qv), .second, .val (.int av), .val (.int wv), .val (.int fl), .val (.ref b1), .val (.ref bc4), .val (.int (1 : Int32)), .val (.int (0 : Int32)), .val (.int (0 : Int32)), .val .null, .unset, .unset] [(.long (0 : Int64)), (.long qv), (.ref b1)]))
      obtain ⟨cq16, kq16, q16a, q16b, q16c⟩ := isOf hZ rfl E_k15
      obtain ⟨_, _, ⟨T16, L16, k16, n16⟩, -, X16, ⟨Lc16, hQ16, l16, y16, z16⟩, st16⟩ := X15.virtualBack hx (y := (⟨"com/example/manyhands/manyhands/crowd/Totals", "addKeptEarlier", "(JJ)V"⟩ : MethodName)) (z := (⟨"com/example/manyhands/manyhands/crowd/Totals", "addKeptEarlier", "(JJ)V"⟩ : MethodName)) hown (mvT hZ (hw _ (List.mem_of_getElem? (i := 47) rfl))) (mvT hZ (hw _ (List.mem_of_getElem? (i := 48) rfl))) (notFace_of_selects (args := #[]) (mvT hZ (hw _ (List.mem_of_getElem? (i := 50) rfl)))) (mvT hZ (hw _ (List.mem_of_getElem? (i := 50) rfl))) (mvT hZ (hw _ (List.mem_of_getElem? (i := 49) rfl))) (by decide) (own_backSync (W := 0) (rm9 l Z a0 hw [] b1 qv (0 : Int64) (own_c1 av.toInt64 (own_c0 pv (own_c0 fi (0 : Int64)))) .null T15.heap n0 Zs15 ⟨E_k15, ⟨_, Ftk15⟩, ⟨_, Fsk15⟩, ⟨_, Fck15⟩, Fnk15, Fhk15⟩ U15q gn_b1) hZ (hw _ (List.mem_of_getElem? (i := 51) rfl)) (hw _ (List.mem_of_getElem? (i := 49) rfl)) (hw _ (List.mem_of_getElem? (i := 2) rfl)) U15q (by decide) (by decide)) q16a q16c (g := (mkF m 101 #[.val (.int fi), .val (.int pv), .val (.long qv), .second, .val (.int av), .val (.int wv), .val (.int fl), .val (.ref b1), .val (.ref bc4), .val (.int (1 : Int32)), .val (.int (0 : Int32)), .val (.int (0 : Int32)), .val .null, .unset, .unset] [(.long (0 : Int64)), (.long qv), (.ref b1)])) rfl (by rw [hml]; rfl) (Steps.refl _) (argsL := [(.long qv), (.long (0 : Int64))]) (rest := []) (lenOf own_pd2 rfl) rfl (by show 2 * 0 + _ ≤ _; exact Nat.le_of_eq rfl) (hb hby at_101) (fun _ _ => ⟨rfl, rfl, (by decide : 2 + 0 ≤ _), (by decide : 10 + 0 ≤ _)⟩)
      dsimp only [Pt.U, Pt.locs, Pt.cells, Pt.slots] at X16 l16 y16 z16 st16 hQ16
      subst l16 y16 z16
      obtain ⟨rfl, N16q, K16q, U16q, P16⟩ := hQ16
      have Zs16 : n0 ≤ T16.heap.size := Nat.le_trans Zs15 K16q.1
      have N16 := Fr.app N15 N16q
      obtain ⟨E_k16, ⟨ztk16, Ftk16⟩, ⟨zsk16, Fsk16⟩, ⟨zck16, Fck16⟩, Fnk16, Fhk16⟩ := id P16
      refine Go.tr st16 ?_
      show Go p e below _ (T16.setTop (mkF m 104 #[.val (.int fi), .val (.int pv), .val (.long qv), .second, .val (.int av), .val (.int wv), .val (.int fl), .val (.ref b1), .val (.ref bc4), .val (.int (1 : Int32)), .val (.int (0 : Int32)), .val (.int (0 : Int32)), .val .null, .unset, .unset] []))
      refine Go.st (fun _ kt => XS.iload X16.here hx rfl (hb hby at_104) rfl kt) ?_
      show Go p e below _ (T16.setTop (mkF m 106 #[.val (.int fi), .val (.int pv), .val (.long qv), .second, .val (.int av), .val (.int wv), .val (.int fl), .val (.ref b1), .val (.ref bc4), .val (.int (1 : Int32)), .val (.int (0 : Int32)), .val (.int (0 : Int32)), .val .null, .unset, .unset] [(.int (0 : Int32))]))
      refine Go.st (fun _ kt => XS.ifYes X16.here hx rfl (pc0 := 106) (pc' := 124) rfl (hb hby at_106) rfl ((if0 _ _).trans (teq (by decide : (0 : Int32) = (0 : Int32))).1) (by decide) (by decide) kt) ?_
      show Go p e below _ (T16.setTop (mkF m 124 #[.val (.int fi), .val (.int pv), .val (.long qv), .second, .val (.int av), .val (.int wv), .val (.int fl), .val (.ref b1), .val (.ref bc4), .val (.int (1 : Int32)), .val (.int (0 : Int32)), .val (.int (0 : Int32)), .val .null, .unset, .unset] []))
      refine Go.st (fun _ kt => XS.iload X16.here hx rfl (hb hby at_124) rfl kt) ?_
      show Go p e below _ (T16.setTop (mkF m 126 #[.val (.int fi), .val (.int pv), .val (.long qv), .second, .val (.int av), .val (.int wv), .val (.int fl), .val (.ref b1), .val (.ref bc4), .val (.int (1 : Int32)), .val (.int (0 : Int32)), .val (.int (0 : Int32)), .val .null, .unset, .unset] [(.int av)]))
      by_cases hc126_17 : av = (0 : Int32)
      · refine Go.st (fun _ kt => XS.ifYes X16.here hx rfl (pc0 := 126) (pc' := 143) rfl (hb hby at_126) rfl ((if0 _ _).trans (teq hc126_17).1) (by decide) (by decide) kt) ?_
        show Go p e below _ (T16.setTop (mkF m 143 #[.val (.int fi), .val (.int pv), .val (.long qv), .second, .val (.int av), .val (.int wv), .val (.int fl), .val (.ref b1), .val (.ref bc4), .val (.int (1 : Int32)), .val (.int (0 : Int32)), .val (.int (0 : Int32)), .val .null, .unset, .unset] []))
        refine Go.st (fun _ kt => XS.iconst X16.here hx rfl (hb hby at_143) kt) ?_
        show Go p e below _ (T16.setTop (mkF m 144 #[.val (.int fi), .val (.int pv), .val (.long qv), .second, .val (.int av), .val (.int wv), .val (.int fl), .val (.ref b1), .val (.ref bc4), .val (.int (1 : Int32)), .val (.int (0 : Int32)), .val (.int (0 : Int32)), .val .null, .unset, .unset] [(.int (0 : Int32))]))
        refine Go.st (fun _ kt => XS.istore X16.here hx rfl (hb hby at_144) rfl (l' := #[.val (.int fi), .val (.int pv), .val (.long qv), .second, .val (.int av), .val (.int wv), .val (.int fl), .val (.ref b1), .val (.ref bc4), .val (.int (1 : Int32)), .val (.int (0 : Int32)), .val (.int (0 : Int32)), .val .null, .val (.int (0 : Int32)), .unset]) rfl kt) ?_
        show Go p e below _ (T16.setTop (mkF m 146 #[.val (.int fi), .val (.int pv), .val (.long qv), .second, .val (.int av), .val (.int wv), .val (.int fl), .val (.ref b1), .val (.ref bc4), .val (.int (1 : Int32)), .val (.int (0 : Int32)), .val (.int (0 : Int32)), .val .null, .val (.int (0 : Int32)), .unset] []))
        refine Go.st (fun _ kt => XS.iloadN X16.here hx rfl (hb hby at_146) rfl kt) ?_
        show Go p e below _ (T16.setTop (mkF m 147 #[.val (.int fi), .val (.int pv), .val (.long qv), .second, .val (.int av), .val (.int wv), .val (.int fl), .val (.ref b1), .val (.ref bc4), .val (.int (1 : Int32)), .val (.int (0 : Int32)), .val (.int (0 : Int32)), .val .null, .val (.int (0 : Int32)), .unset] [(.int pv)]))
        by_cases hc147_18 : pv = (0 : Int32)
        · refine Go.st (fun _ kt => XS.ifNo X16.here hx rfl (hb hby at_147) rfl ((if0 _ _).trans (teq hc147_18).2) kt) ?_
          show Go p e below _ (T16.setTop (mkF m 150 #[.val (.int fi), .val (.int pv), .val (.long qv), .second, .val (.int av), .val (.int wv), .val (.int fl), .val (.ref b1), .val (.ref bc4), .val (.int (1 : Int32)), .val (.int (0 : Int32)), .val (.int (0 : Int32)), .val .null, .val (.int (0 : Int32)), .unset] []))
          refine Go.st (fun _ kt => XS.lloadN X16.here hx rfl (hb hby at_150) rfl kt) ?_
          show Go p e below _ (T16.setTop (mkF m 151 #[.val (.int fi), .val (.int pv), .val (.long qv), .second, .val (.int av), .val (.int wv), .val (.int fl), .val (.ref b1), .val (.ref bc4), .val (.int (1 : Int32)), .val (.int (0 : Int32)), .val (.int (0 : Int32)), .val .null, .val (.int (0 : Int32)), .unset] [(.long qv)]))
          refine Go.st (fun _ kt => XS.lconst X16.here hx rfl (hb hby at_151) kt) ?_
          show Go p e below _ (T16.setTop (mkF m 152 #[.val (.int fi), .val (.int pv), .val (.long qv), .second, .val (.int av), .val (.int wv), .val (.int fl), .val (.ref b1), .val (.ref bc4), .val (.int (1 : Int32)), .val (.int (0 : Int32)), .val (.int (0 : Int32)), .val .null, .val (.int (0 : Int32)), .unset] [(.long (0 : Int64)), (.long qv)]))
          refine Go.st (fun _ kt => XS.lcmp X16.here hx rfl (hb hby at_152) rfl kt) ?_
          show Go p e below _ (T16.setTop (mkF m 153 #[.val (.int fi), .val (.int pv), .val (.long qv), .second, .val (.int av), .val (.int wv), .val (.int fl), .val (.ref b1), .val (.ref bc4), .val (.int (1 : Int32)), .val (.int (0 : Int32)), .val (.int (0 : Int32)), .val .null, .val (.int (0 : Int32)), .unset] [(.int (lcmpW qv (0 : Int64)))]))
          by_cases hc153_19 : (lcmpW qv (0 : Int64)) = (0 : Int32)
          · refine Go.st (fun _ kt => XS.ifNo X16.here hx rfl (hb hby at_153) rfl ((if0 _ _).trans (teq hc153_19).2) kt) ?_
            show Go p e below _ (T16.setTop (mkF m 156 #[.val (.int fi), .val (.int pv), .val (.long qv), .second, .val (.int av), .val (.int wv), .val (.int fl), .val (.ref b1), .val (.ref bc4), .val (.int (1 : Int32)), .val (.int (0 : Int32)), .val (.int (0 : Int32)), .val .null, .val (.int (0 : Int32)), .unset] []))
            refine Go.st (fun _ kt => XS.iload X16.here hx rfl (hb hby at_156) rfl kt) ?_
            show Go p e below _ (T16.setTop (mkF m 158 #[.val (.int fi), .val (.int pv), .val (.long qv), .second, .val (.int av), .val (.int wv), .val (.int fl), .val (.ref b1), .val (.ref bc4), .val (.int (1 : Int32)), .val (.int (0 : Int32)), .val (.int (0 : Int32)), .val .null, .val (.int (0 : Int32)), .unset] [(.int (0 : Int32))]))
            refine Go.st (fun _ kt => XS.ifYes X16.here hx rfl (pc0 := 158) (pc' := 165) rfl (hb hby at_158) rfl ((if0 _ _).trans (teq (by decide : (0 : Int32) = (0 : Int32))).1) (by decide) (by decide) kt) ?_
            show Go p e below _ (T16.setTop (mkF m 165 #[.val (.int fi), .val (.int pv), .val (.long qv), .second, .val (.int av), .val (.int wv), .val (.int fl), .val (.ref b1), .val (.ref bc4), .val (.int (1 : Int32)), .val (.int (0 : Int32)), .val (.int (0 : Int32)), .val .null, .val (.int (0 : Int32)), .unset] []))
            refine Go.st (fun _ kt => XS.iconst X16.here hx rfl (hb hby at_165) kt) ?_
            show Go p e below _ (T16.setTop (mkF m 166 #[.val (.int fi), .val (.int pv), .val (.long qv), .second, .val (.int av), .val (.int wv), .val (.int fl), .val (.ref b1), .val (.ref bc4), .val (.int (1 : Int32)), .val (.int (0 : Int32)), .val (.int (0 : Int32)), .val .null, .val (.int (0 : Int32)), .unset] [(.int (0 : Int32))]))
            refine Go.st (fun _ kt => XS.istore X16.here hx rfl (hb hby at_166) rfl (l' := #[.val (.int fi), .val (.int pv), .val (.long qv), .second, .val (.int av), .val (.int wv), .val (.int fl), .val (.ref b1), .val (.ref bc4), .val (.int (1 : Int32)), .val (.int (0 : Int32)), .val (.int (0 : Int32)), .val .null, .val (.int (0 : Int32)), .val (.int (0 : Int32))]) rfl kt) ?_
            show Go p e below _ (T16.setTop (mkF m 168 #[.val (.int fi), .val (.int pv), .val (.long qv), .second, .val (.int av), .val (.int wv), .val (.int fl), .val (.ref b1), .val (.ref bc4), .val (.int (1 : Int32)), .val (.int (0 : Int32)), .val (.int (0 : Int32)), .val .null, .val (.int (0 : Int32)), .val (.int (0 : Int32))] []))
            refine Go.st (fun _ kt => XS.iload X16.here hx rfl (hb hby at_168) rfl kt) ?_
            show Go p e below _ (T16.setTop (mkF m 170 #[.val (.int fi), .val (.int pv), .val (.long qv), .second, .val (.int av), .val (.int wv), .val (.int fl), .val (.ref b1), .val (.ref bc4), .val (.int (1 : Int32)), .val (.int (0 : Int32)), .val (.int (0 : Int32)), .val .null, .val (.int (0 : Int32)), .val (.int (0 : Int32))] [(.int (1 : Int32))]))
            refine Go.st (fun _ kt => XS.ifNo X16.here hx rfl (hb hby at_170) rfl ((if0 _ _).trans (feq (by decide : ¬ ((1 : Int32) = (0 : Int32)))).1) kt) ?_
            show Go p e below _ (T16.setTop (mkF m 173 #[.val (.int fi), .val (.int pv), .val (.long qv), .second, .val (.int av), .val (.int wv), .val (.int fl), .val (.ref b1), .val (.ref bc4), .val (.int (1 : Int32)), .val (.int (0 : Int32)), .val (.int (0 : Int32)), .val .null, .val (.int (0 : Int32)), .val (.int (0 : Int32))] []))
            refine Go.st (fun _ kt => XS.aload X16.here hx rfl (hb hby at_173) rfl rfl kt) ?_
            show Go p e below _ (T16.setTop (mkF m 175 #[.val (.int fi), .val (.int pv), .val (.long qv), .second, .val (.int av), .val (.int wv), .val (.int fl), .val (.ref b1), .val (.ref bc4), .val (.int (1 : Int32)), .val (.int (0 : Int32)), .val (.int (0 : Int32)), .val .null, .val (.int (0 : Int32)), .val (.int (0 : Int32))] [(.ref b1)]))
            refine Go.st (fun _ kt => XS.aload X16.here hx rfl (hb hby at_175) rfl rfl kt) ?_
            show Go p e below _ (T16.setTop (mkF m 177 #[.val (.int fi), .val (.int pv), .val (.long qv), .second, .val (.int av), .val (.int wv), .val (.int fl), .val (.ref b1), .val (.ref bc4), .val (.int (1 : Int32)), .val (.int (0 : Int32)), .val (.int (0 : Int32)), .val .null, .val (.int (0 : Int32)), .val (.int (0 : Int32))] [(.ref bc4), (.ref b1)]))
            have f20 := (((Fx4.keep K14q (ninS (Nat.ne_of_gt lt_b1_bc4) nin0)).keep K15q (ninS (Nat.ne_of_gt lt_b1_bc4) nin0)).keep K16q (ninS (Nat.ne_of_gt lt_b1_bc4) nin0))
            obtain ⟨cq21, kq21, q21a, q21b, q21c⟩ := isOf hZ rfl E_k16
            obtain ⟨_, _, ⟨T21, L21, k21, n21⟩, -, X21, ⟨Lc21, hQ21, l21, y21, z21⟩, st21⟩ := X16.virtualBack hx (y := (⟨"com/example/manyhands/manyhands/crowd/Totals", "countedSince", "(Lcom/example/manyhands/manyhands/crowd/Totals;)Z"⟩ : MethodName)) (z := (⟨"com/example/manyhands/manyhands/crowd/Totals", "countedSince", "(Lcom/example/manyhands/manyhands/crowd/Totals;)Z"⟩ : MethodName)) hown (mvT hZ (hw _ (List.mem_of_getElem? (i := 31) rfl))) (mvT hZ (hw _ (List.mem_of_getElem? (i := 32) rfl))) (notFace_of_selects (args := #[]) (mvT hZ (hw _ (List.mem_of_getElem? (i := 34) rfl)))) (mvT hZ (hw _ (List.mem_of_getElem? (i := 34) rfl))) (mvT hZ (hw _ (List.mem_of_getElem? (i := 33) rfl))) (by decide) (backOf (W := 0) (rm6e l Z a0 hw [] b1 bc4 (own_c1 qv (own_c1 av.toInt64 (own_c0 pv (own_c0 fi (0 : Int64))))) (own_c0 fi (0 : Int64)) T16.heap n0 Zs16 Fnk16 f20 (own_eq0 _ hc147_18 ((lw_eq _ _).mp hc153_19) (own_tz.mpr hc126_17))) hZ (hw _ (List.mem_of_getElem? (i := 35) rfl)) (hw _ (List.mem_of_getElem? (i := 2) rfl)) (by decide) (by decide)) q21a q21c (g := (mkF m 177 #[.val (.int fi), .val (.int pv), .val (.long qv), .second, .val (.int av), .val (.int wv), .val (.int fl), .val (.ref b1), .val (.ref bc4), .val (.int (1 : Int32)), .val (.int (0 : Int32)), .val (.int (0 : Int32)), .val .null, .val (.int (0 : Int32)), .val (.int (0 : Int32))] [(.ref bc4), (.ref b1)])) rfl (by rw [hml]; rfl) (Steps.refl _) (argsL := [(.ref bc4)]) (rest := []) (lenOf own_pd8 rfl) rfl (by show 2 * 0 + _ ≤ _; exact Nat.le_of_eq rfl) (hb hby at_177) (fun _ _ => ⟨rfl, rfl, (by decide : 2 + 0 ≤ _), (by decide : 10 + 0 ≤ _)⟩)
            dsimp only [Pt.U, Pt.locs, Pt.cells, Pt.slots] at X21 l21 y21 z21 st21 hQ21
            subst l21 y21 z21
            obtain ⟨rfl, N21q, e21⟩ := hQ21
            have N21 := Fr.app N16 N21q
            refine Go.tr st21 ?_
            show Go p e below _ (T21.setTop (mkF m 180 #[.val (.int fi), .val (.int pv), .val (.long qv), .second, .val (.int av), .val (.int wv), .val (.int fl), .val (.ref b1), .val (.ref bc4), .val (.int (1 : Int32)), .val (.int (0 : Int32)), .val (.int (0 : Int32)), .val .null, .val (.int (0 : Int32)), .val (.int (0 : Int32))] [(.int (0 : Int32))]))
            refine Go.st (fun _ kt => XS.iload X21.here hx rfl (hb hby at_180) rfl kt) ?_
            show Go p e below _ (T21.setTop (mkF m 182 #[.val (.int fi), .val (.int pv), .val (.long qv), .second, .val (.int av), .val (.int wv), .val (.int fl), .val (.ref b1), .val (.ref bc4), .val (.int (1 : Int32)), .val (.int (0 : Int32)), .val (.int (0 : Int32)), .val .null, .val (.int (0 : Int32)), .val (.int (0 : Int32))] [(.int (0 : Int32)), (.int (0 : Int32))]))
            refine Go.st (fun _ kt => XS.icmpNo X21.here hx rfl (hb hby at_182) rfl (teq (by decide : (0 : Int32) = (0 : Int32))).2 kt) ?_
            show Go p e below _ (T21.setTop (mkF m 185 #[.val (.int fi), .val (.int pv), .val (.long qv), .second, .val (.int av), .val (.int wv), .val (.int fl), .val (.ref b1), .val (.ref bc4), .val (.int (1 : Int32)), .val (.int (0 : Int32)), .val (.int (0 : Int32)), .val .null, .val (.int (0 : Int32)), .val (.int (0 : Int32))] []))
            refine Go.st (fun _ kt => XS.iconst X21.here hx rfl (hb hby at_185) kt) ?_
            show Go p e below _ (T21.setTop (mkF m 186 #[.val (.int fi), .val (.int pv), .val (.long qv), .second, .val (.int av), .val (.int wv), .val (.int fl), .val (.ref b1), .val (.ref bc4), .val (.int (1 : Int32)), .val (.int (0 : Int32)), .val (.int (0 : Int32)), .val .null, .val (.int (0 : Int32)), .val (.int (0 : Int32))] [(.int (1 : Int32))]))
            refine Go.st (fun _ kt => XS.goto X21.here hx rfl (pc0 := 186) (pc' := 190) rfl (hb hby at_186) (by decide) (by decide) kt) ?_
            show Go p e below _ (T21.setTop (mkF m 190 #[.val (.int fi), .val (.int pv), .val (.long qv), .second, .val (.int av), .val (.int wv), .val (.int fl), .val (.ref b1), .val (.ref bc4), .val (.int (1 : Int32)), .val (.int (0 : Int32)), .val (.int (0 : Int32)), .val .null, .val (.int (0 : Int32)), .val (.int (0 : Int32))] [(.int (1 : Int32))]))
            refine Go.retN X21 hx (t := .boolean) Bd.returns (by simp) (BodyLoose.notSynchronized Bd) (hb hby at_190) (Q := (Q_rm0 Z fi pv qv av wv fl h0 n0)) (by decide) (by decide) ?_
            show (Q_rm0 Z fi pv qv av wv fl h0 n0) _ T21.heap _
            rw [e21]
            exact ⟨rfl, N21⟩
          · refine Go.st (fun _ kt => XS.ifYes X16.here hx rfl (pc0 := 153) (pc' := 161) rfl (hb hby at_153) rfl ((if0 _ _).trans (feq hc153_19).2) (by decide) (by decide) kt) ?_
            show Go p e below _ (T16.setTop (mkF m 161 #[.val (.int fi), .val (.int pv), .val (.long qv), .second, .val (.int av), .val (.int wv), .val (.int fl), .val (.ref b1), .val (.ref bc4), .val (.int (1 : Int32)), .val (.int (0 : Int32)), .val (.int (0 : Int32)), .val .null, .val (.int (0 : Int32)), .unset] []))
            refine Go.st (fun _ kt => XS.iconst X16.here hx rfl (hb hby at_161) kt) ?_
            show Go p e below _ (T16.setTop (mkF m 162 #[.val (.int fi), .val (.int pv), .val (.long qv), .second, .val (.int av), .val (.int wv), .val (.int fl), .val (.ref b1), .val (.ref bc4), .val (.int (1 : Int32)), .val (.int (0 : Int32)), .val (.int (0 : Int32)), .val .null, .val (.int (0 : Int32)), .unset] [(.int (1 : Int32))]))
            refine Go.st (fun _ kt => XS.goto X16.here hx rfl (pc0 := 162) (pc' := 166) rfl (hb hby at_162) (by decide) (by decide) kt) ?_
            show Go p e below _ (T16.setTop (mkF m 166 #[.val (.int fi), .val (.int pv), .val (.long qv), .second, .val (.int av), .val (.int wv), .val (.int fl), .val (.ref b1), .val (.ref bc4), .val (.int (1 : Int32)), .val (.int (0 : Int32)), .val (.int (0 : Int32)), .val .null, .val (.int (0 : Int32)), .unset] [(.int (1 : Int32))]))
            refine Go.st (fun _ kt => XS.istore X16.here hx rfl (hb hby at_166) rfl (l' := #[.val (.int fi), .val (.int pv), .val (.long qv), .second, .val (.int av), .val (.int wv), .val (.int fl), .val (.ref b1), .val (.ref bc4), .val (.int (1 : Int32)), .val (.int (0 : Int32)), .val (.int (0 : Int32)), .val .null, .val (.int (0 : Int32)), .val (.int (1 : Int32))]) rfl kt) ?_
            show Go p e below _ (T16.setTop (mkF m 168 #[.val (.int fi), .val (.int pv), .val (.long qv), .second, .val (.int av), .val (.int wv), .val (.int fl), .val (.ref b1), .val (.ref bc4), .val (.int (1 : Int32)), .val (.int (0 : Int32)), .val (.int (0 : Int32)), .val .null, .val (.int (0 : Int32)), .val (.int (1 : Int32))] []))
            refine Go.st (fun _ kt => XS.iload X16.here hx rfl (hb hby at_168) rfl kt) ?_
            show Go p e below _ (T16.setTop (mkF m 170 #[.val (.int fi), .val (.int pv), .val (.long qv), .second, .val (.int av), .val (.int wv), .val (.int fl), .val (.ref b1), .val (.ref bc4), .val (.int (1 : Int32)), .val (.int (0 : Int32)), .val (.int (0 : Int32)), .val .null, .val (.int (0 : Int32)), .val (.int (1 : Int32))] [(.int (1 : Int32))]))
            refine Go.st (fun _ kt => XS.ifNo X16.here hx rfl (hb hby at_170) rfl ((if0 _ _).trans (feq (by decide : ¬ ((1 : Int32) = (0 : Int32)))).1) kt) ?_
            show Go p e below _ (T16.setTop (mkF m 173 #[.val (.int fi), .val (.int pv), .val (.long qv), .second, .val (.int av), .val (.int wv), .val (.int fl), .val (.ref b1), .val (.ref bc4), .val (.int (1 : Int32)), .val (.int (0 : Int32)), .val (.int (0 : Int32)), .val .null, .val (.int (0 : Int32)), .val (.int (1 : Int32))] []))
            refine Go.st (fun _ kt => XS.aload X16.here hx rfl (hb hby at_173) rfl rfl kt) ?_
            show Go p e below _ (T16.setTop (mkF m 175 #[.val (.int fi), .val (.int pv), .val (.long qv), .second, .val (.int av), .val (.int wv), .val (.int fl), .val (.ref b1), .val (.ref bc4), .val (.int (1 : Int32)), .val (.int (0 : Int32)), .val (.int (0 : Int32)), .val .null, .val (.int (0 : Int32)), .val (.int (1 : Int32))] [(.ref b1)]))
            refine Go.st (fun _ kt => XS.aload X16.here hx rfl (hb hby at_175) rfl rfl kt) ?_
            show Go p e below _ (T16.setTop (mkF m 177 #[.val (.int fi), .val (.int pv), .val (.long qv), .second, .val (.int av), .val (.int wv), .val (.int fl), .val (.ref b1), .val (.ref bc4), .val (.int (1 : Int32)), .val (.int (0 : Int32)), .val (.int (0 : Int32)), .val .null, .val (.int (0 : Int32)), .val (.int (1 : Int32))] [(.ref bc4), (.ref b1)]))
            have f22 := (((Fx4.keep K14q (ninS (Nat.ne_of_gt lt_b1_bc4) nin0)).keep K15q (ninS (Nat.ne_of_gt lt_b1_bc4) nin0)).keep K16q (ninS (Nat.ne_of_gt lt_b1_bc4) nin0))
            obtain ⟨cq23, kq23, q23a, q23b, q23c⟩ := isOf hZ rfl E_k16
            obtain ⟨_, _, ⟨T23, L23, k23, n23⟩, -, X23, ⟨Lc23, hQ23, l23, y23, z23⟩, st23⟩ := X16.virtualBack hx (y := (⟨"com/example/manyhands/manyhands/crowd/Totals", "countedSince", "(Lcom/example/manyhands/manyhands/crowd/Totals;)Z"⟩ : MethodName)) (z := (⟨"com/example/manyhands/manyhands/crowd/Totals", "countedSince", "(Lcom/example/manyhands/manyhands/crowd/Totals;)Z"⟩ : MethodName)) hown (mvT hZ (hw _ (List.mem_of_getElem? (i := 31) rfl))) (mvT hZ (hw _ (List.mem_of_getElem? (i := 32) rfl))) (notFace_of_selects (args := #[]) (mvT hZ (hw _ (List.mem_of_getElem? (i := 34) rfl)))) (mvT hZ (hw _ (List.mem_of_getElem? (i := 34) rfl))) (mvT hZ (hw _ (List.mem_of_getElem? (i := 33) rfl))) (by decide) (backOf (W := 0) (rm6n l Z a0 hw [] b1 bc4 (own_c1 qv (own_c1 av.toInt64 (own_c0 pv (own_c0 fi (0 : Int64))))) (own_c0 fi (0 : Int64)) T16.heap n0 Zs16 Fnk16 f22 (own_ne0 _ (Or.inr (Or.inl (fun q => hc153_19 ((lw_eq _ _).mpr q)))))) hZ (hw _ (List.mem_of_getElem? (i := 35) rfl)) (hw _ (List.mem_of_getElem? (i := 2) rfl)) (by decide) (by decide)) q23a q23c (g := (mkF m 177 #[.val (.int fi), .val (.int pv), .val (.long qv), .second, .val (.int av), .val (.int wv), .val (.int fl), .val (.ref b1), .val (.ref bc4), .val (.int (1 : Int32)), .val (.int (0 : Int32)), .val (.int (0 : Int32)), .val .null, .val (.int (0 : Int32)), .val (.int (1 : Int32))] [(.ref bc4), (.ref b1)])) rfl (by rw [hml]; rfl) (Steps.refl _) (argsL := [(.ref bc4)]) (rest := []) (lenOf own_pd8 rfl) rfl (by show 2 * 0 + _ ≤ _; exact Nat.le_of_eq rfl) (hb hby at_177) (fun _ _ => ⟨rfl, rfl, (by decide : 2 + 0 ≤ _), (by decide : 10 + 0 ≤ _)⟩)
            dsimp only [Pt.U, Pt.locs, Pt.cells, Pt.slots] at X23 l23 y23 z23 st23 hQ23
            subst l23 y23 z23
            obtain ⟨rfl, N23q, e23⟩ := hQ23
            have N23 := Fr.app N16 N23q
            refine Go.tr st23 ?_
            show Go p e below _ (T23.setTop (mkF m 180 #[.val (.int fi), .val (.int pv), .val (.long qv), .second, .val (.int av), .val (.int wv), .val (.int fl), .val (.ref b1), .val (.ref bc4), .val (.int (1 : Int32)), .val (.int (0 : Int32)), .val (.int (0 : Int32)), .val .null, .val (.int (0 : Int32)), .val (.int (1 : Int32))] [(.int (1 : Int32))]))
            refine Go.st (fun _ kt => XS.iload X23.here hx rfl (hb hby at_180) rfl kt) ?_
            show Go p e below _ (T23.setTop (mkF m 182 #[.val (.int fi), .val (.int pv), .val (.long qv), .second, .val (.int av), .val (.int wv), .val (.int fl), .val (.ref b1), .val (.ref bc4), .val (.int (1 : Int32)), .val (.int (0 : Int32)), .val (.int (0 : Int32)), .val .null, .val (.int (0 : Int32)), .val (.int (1 : Int32))] [(.int (1 : Int32)), (.int (1 : Int32))]))
            refine Go.st (fun _ kt => XS.icmpNo X23.here hx rfl (hb hby at_182) rfl (teq (by decide : (1 : Int32) = (1 : Int32))).2 kt) ?_
            show Go p e below _ (T23.setTop (mkF m 185 #[.val (.int fi), .val (.int pv), .val (.long qv), .second, .val (.int av), .val (.int wv), .val (.int fl), .val (.ref b1), .val (.ref bc4), .val (.int (1 : Int32)), .val (.int (0 : Int32)), .val (.int (0 : Int32)), .val .null, .val (.int (0 : Int32)), .val (.int (1 : Int32))] []))
            refine Go.st (fun _ kt => XS.iconst X23.here hx rfl (hb hby at_185) kt) ?_
            show Go p e below _ (T23.setTop (mkF m 186 #[.val (.int fi), .val (.int pv), .val (.long qv), .second, .val (.int av), .val (.int wv), .val (.int fl), .val (.ref b1), .val (.ref bc4), .val (.int (1 : Int32)), .val (.int (0 : Int32)), .val (.int (0 : Int32)), .val .null, .val (.int (0 : Int32)), .val (.int (1 : Int32))] [(.int (1 : Int32))]))
            refine Go.st (fun _ kt => XS.goto X23.here hx rfl (pc0 := 186) (pc' := 190) rfl (hb hby at_186) (by decide) (by decide) kt) ?_
            show Go p e below _ (T23.setTop (mkF m 190 #[.val (.int fi), .val (.int pv), .val (.long qv), .second, .val (.int av), .val (.int wv), .val (.int fl), .val (.ref b1), .val (.ref bc4), .val (.int (1 : Int32)), .val (.int (0 : Int32)), .val (.int (0 : Int32)), .val .null, .val (.int (0 : Int32)), .val (.int (1 : Int32))] [(.int (1 : Int32))]))
            refine Go.retN X23 hx (t := .boolean) Bd.returns (by simp) (BodyLoose.notSynchronized Bd) (hb hby at_190) (Q := (Q_rm0 Z fi pv qv av wv fl h0 n0)) (by decide) (by decide) ?_
            show (Q_rm0 Z fi pv qv av wv fl h0 n0) _ T23.heap _
            rw [e23]
            exact ⟨rfl, N23⟩
        · refine Go.st (fun _ kt => XS.ifYes X16.here hx rfl (pc0 := 147) (pc' := 161) rfl (hb hby at_147) rfl ((if0 _ _).trans (feq hc147_18).2) (by decide) (by decide) kt) ?_
          show Go p e below _ (T16.setTop (mkF m 161 #[.val (.int fi), .val (.int pv), .val (.long qv), .second, .val (.int av), .val (.int wv), .val (.int fl), .val (.ref b1), .val (.ref bc4), .val (.int (1 : Int32)), .val (.int (0 : Int32)), .val (.int (0 : Int32)), .val .null, .val (.int (0 : Int32)), .unset] []))
          refine Go.st (fun _ kt => XS.iconst X16.here hx rfl (hb hby at_161) kt) ?_
          show Go p e below _ (T16.setTop (mkF m 162 #[.val (.int fi), .val (.int pv), .val (.long qv), .second, .val (.int av), .val (.int wv), .val (.int fl), .val (.ref b1), .val (.ref bc4), .val (.int (1 : Int32)), .val (.int (0 : Int32)), .val (.int (0 : Int32)), .val .null, .val (.int (0 : Int32)), .unset] [(.int (1 : Int32))]))
          refine Go.st (fun _ kt => XS.goto X16.here hx rfl (pc0 := 162) (pc' := 166) rfl (hb hby at_162) (by decide) (by decide) kt) ?_
          show Go p e below _ (T16.setTop (mkF m 166 #[.val (.int fi), .val (.int pv), .val (.long qv), .second, .val (.int av), .val (.int wv), .val (.int fl), .val (.ref b1), .val (.ref bc4), .val (.int (1 : Int32)), .val (.int (0 : Int32)), .val (.int (0 : Int32)), .val .null, .val (.int (0 : Int32)), .unset] [(.int (1 : Int32))]))
          refine Go.st (fun _ kt => XS.istore X16.here hx rfl (hb hby at_166) rfl (l' := #[.val (.int fi), .val (.int pv), .val (.long qv), .second, .val (.int av), .val (.int wv), .val (.int fl), .val (.ref b1), .val (.ref bc4), .val (.int (1 : Int32)), .val (.int (0 : Int32)), .val (.int (0 : Int32)), .val .null, .val (.int (0 : Int32)), .val (.int (1 : Int32))]) rfl kt) ?_
          show Go p e below _ (T16.setTop (mkF m 168 #[.val (.int fi), .val (.int pv), .val (.long qv), .second, .val (.int av), .val (.int wv), .val (.int fl), .val (.ref b1), .val (.ref bc4), .val (.int (1 : Int32)), .val (.int (0 : Int32)), .val (.int (0 : Int32)), .val .null, .val (.int (0 : Int32)), .val (.int (1 : Int32))] []))
          refine Go.st (fun _ kt => XS.iload X16.here hx rfl (hb hby at_168) rfl kt) ?_
          show Go p e below _ (T16.setTop (mkF m 170 #[.val (.int fi), .val (.int pv), .val (.long qv), .second, .val (.int av), .val (.int wv), .val (.int fl), .val (.ref b1), .val (.ref bc4), .val (.int (1 : Int32)), .val (.int (0 : Int32)), .val (.int (0 : Int32)), .val .null, .val (.int (0 : Int32)), .val (.int (1 : Int32))] [(.int (1 : Int32))]))
          refine Go.st (fun _ kt => XS.ifNo X16.here hx rfl (hb hby at_170) rfl ((if0 _ _).trans (feq (by decide : ¬ ((1 : Int32) = (0 : Int32)))).1) kt) ?_
          show Go p e below _ (T16.setTop (mkF m 173 #[.val (.int fi), .val (.int pv), .val (.long qv), .second, .val (.int av), .val (.int wv), .val (.int fl), .val (.ref b1), .val (.ref bc4), .val (.int (1 : Int32)), .val (.int (0 : Int32)), .val (.int (0 : Int32)), .val .null, .val (.int (0 : Int32)), .val (.int (1 : Int32))] []))
          refine Go.st (fun _ kt => XS.aload X16.here hx rfl (hb hby at_173) rfl rfl kt) ?_
          show Go p e below _ (T16.setTop (mkF m 175 #[.val (.int fi), .val (.int pv), .val (.long qv), .second, .val (.int av), .val (.int wv), .val (.int fl), .val (.ref b1), .val (.ref bc4), .val (.int (1 : Int32)), .val (.int (0 : Int32)), .val (.int (0 : Int32)), .val .null, .val (.int (0 : Int32)), .val (.int (1 : Int32))] [(.ref b1)]))
          refine Go.st (fun _ kt => XS.aload X16.here hx rfl (hb hby at_175) rfl rfl kt) ?_
          show Go p e below _ (T16.setTop (mkF m 177 #[.val (.int fi), .val (.int pv), .val (.long qv), .second, .val (.int av), .val (.int wv), .val (.int fl), .val (.ref b1), .val (.ref bc4), .val (.int (1 : Int32)), .val (.int (0 : Int32)), .val (.int (0 : Int32)), .val .null, .val (.int (0 : Int32)), .val (.int (1 : Int32))] [(.ref bc4), (.ref b1)]))
          have f24 := (((Fx4.keep K14q (ninS (Nat.ne_of_gt lt_b1_bc4) nin0)).keep K15q (ninS (Nat.ne_of_gt lt_b1_bc4) nin0)).keep K16q (ninS (Nat.ne_of_gt lt_b1_bc4) nin0))
          obtain ⟨cq25, kq25, q25a, q25b, q25c⟩ := isOf hZ rfl E_k16
          obtain ⟨_, _, ⟨T25, L25, k25, n25⟩, -, X25, ⟨Lc25, hQ25, l25, y25, z25⟩, st25⟩ := X16.virtualBack hx (y := (⟨"com/example/manyhands/manyhands/crowd/Totals", "countedSince", "(Lcom/example/manyhands/manyhands/crowd/Totals;)Z"⟩ : MethodName)) (z := (⟨"com/example/manyhands/manyhands/crowd/Totals", "countedSince", "(Lcom/example/manyhands/manyhands/crowd/Totals;)Z"⟩ : MethodName)) hown (mvT hZ (hw _ (List.mem_of_getElem? (i := 31) rfl))) (mvT hZ (hw _ (List.mem_of_getElem? (i := 32) rfl))) (notFace_of_selects (args := #[]) (mvT hZ (hw _ (List.mem_of_getElem? (i := 34) rfl)))) (mvT hZ (hw _ (List.mem_of_getElem? (i := 34) rfl))) (mvT hZ (hw _ (List.mem_of_getElem? (i := 33) rfl))) (by decide) (backOf (W := 0) (rm6n l Z a0 hw [] b1 bc4 (own_c1 qv (own_c1 av.toInt64 (own_c0 pv (own_c0 fi (0 : Int64))))) (own_c0 fi (0 : Int64)) T16.heap n0 Zs16 Fnk16 f24 (own_ne0 _ (Or.inl hc147_18))) hZ (hw _ (List.mem_of_getElem? (i := 35) rfl)) (hw _ (List.mem_of_getElem? (i := 2) rfl)) (by decide) (by decide)) q25a q25c (g := (mkF m 177 #[.val (.int fi), .val (.int pv), .val (.long qv), .second, .val (.int av), .val (.int wv), .val (.int fl), .val (.ref b1), .val (.ref bc4), .val (.int (1 : Int32)), .val (.int (0 : Int32)), .val (.int (0 : Int32)), .val .null, .val (.int (0 : Int32)), .val (.int (1 : Int32))] [(.ref bc4), (.ref b1)])) rfl (by rw [hml]; rfl) (Steps.refl _) (argsL := [(.ref bc4)]) (rest := []) (lenOf own_pd8 rfl) rfl (by show 2 * 0 + _ ≤ _; exact Nat.le_of_eq rfl) (hb hby at_177) (fun _ _ => ⟨rfl, rfl, (by decide : 2 + 0 ≤ _), (by decide : 10 + 0 ≤ _)⟩)
          dsimp only [Pt.U, Pt.locs, Pt.cells, Pt.slots] at X25 l25 y25 z25 st25 hQ25
          subst l25 y25 z25
          obtain ⟨rfl, N25q, e25⟩ := hQ25
          have N25 := Fr.app N16 N25q
          refine Go.tr st25 ?_
          show Go p e below _ (T25.setTop (mkF m 180 #[.val (.int fi), .val (.int pv), .val (.long qv), .second, .val (.int av), .val (.int wv), .val (.int fl), .val (.ref b1), .val (.ref bc4), .val (.int (1 : Int32)), .val (.int (0 : Int32)), .val (.int (0 : Int32)), .val .null, .val (.int (0 : Int32)), .val (.int (1 : Int32))] [(.int (1 : Int32))]))
          refine Go.st (fun _ kt => XS.iload X25.here hx rfl (hb hby at_180) rfl kt) ?_
          show Go p e below _ (T25.setTop (mkF m 182 #[.val (.int fi), .val (.int pv), .val (.long qv), .second, .val (.int av), .val (.int wv), .val (.int fl), .val (.ref b1), .val (.ref bc4), .val (.int (1 : Int32)), .val (.int (0 : Int32)), .val (.int (0 : Int32)), .val .null, .val (.int (0 : Int32)), .val (.int (1 : Int32))] [(.int (1 : Int32)), (.int (1 : Int32))]))
          refine Go.st (fun _ kt => XS.icmpNo X25.here hx rfl (hb hby at_182) rfl (teq (by decide : (1 : Int32) = (1 : Int32))).2 kt) ?_
          show Go p e below _ (T25.setTop (mkF m 185 #[.val (.int fi), .val (.int pv), .val (.long qv), .second, .val (.int av), .val (.int wv), .val (.int fl), .val (.ref b1), .val (.ref bc4), .val (.int (1 : Int32)), .val (.int (0 : Int32)), .val (.int (0 : Int32)), .val .null, .val (.int (0 : Int32)), .val (.int (1 : Int32))] []))
          refine Go.st (fun _ kt => XS.iconst X25.here hx rfl (hb hby at_185) kt) ?_
          show Go p e below _ (T25.setTop (mkF m 186 #[.val (.int fi), .val (.int pv), .val (.long qv), .second, .val (.int av), .val (.int wv), .val (.int fl), .val (.ref b1), .val (.ref bc4), .val (.int (1 : Int32)), .val (.int (0 : Int32)), .val (.int (0 : Int32)), .val .null, .val (.int (0 : Int32)), .val (.int (1 : Int32))] [(.int (1 : Int32))]))
          refine Go.st (fun _ kt => XS.goto X25.here hx rfl (pc0 := 186) (pc' := 190) rfl (hb hby at_186) (by decide) (by decide) kt) ?_
          show Go p e below _ (T25.setTop (mkF m 190 #[.val (.int fi), .val (.int pv), .val (.long qv), .second, .val (.int av), .val (.int wv), .val (.int fl), .val (.ref b1), .val (.ref bc4), .val (.int (1 : Int32)), .val (.int (0 : Int32)), .val (.int (0 : Int32)), .val .null, .val (.int (0 : Int32)), .val (.int (1 : Int32))] [(.int (1 : Int32))]))
          refine Go.retN X25 hx (t := .boolean) Bd.returns (by simp) (BodyLoose.notSynchronized Bd) (hb hby at_190) (Q := (Q_rm0 Z fi pv qv av wv fl h0 n0)) (by decide) (by decide) ?_
          show (Q_rm0 Z fi pv qv av wv fl h0 n0) _ T25.heap _
          rw [e25]
          exact ⟨rfl, N25⟩
      · refine Go.st (fun _ kt => XS.ifNo X16.here hx rfl (hb hby at_126) rfl ((if0 _ _).trans (feq hc126_17).1) kt) ?_
        show Go p e below _ (T16.setTop (mkF m 129 #[.val (.int fi), .val (.int pv), .val (.long qv), .second, .val (.int av), .val (.int wv), .val (.int fl), .val (.ref b1), .val (.ref bc4), .val (.int (1 : Int32)), .val (.int (0 : Int32)), .val (.int (0 : Int32)), .val .null, .unset, .unset] []))
        refine Go.st (fun _ kt => XS.iload X16.here hx rfl (hb hby at_129) rfl kt) ?_
        show Go p e below _ (T16.setTop (mkF m 131 #[.val (.int fi), .val (.int pv), .val (.long qv), .second, .val (.int av), .val (.int wv), .val (.int fl), .val (.ref b1), .val (.ref bc4), .val (.int (1 : Int32)), .val (.int (0 : Int32)), .val (.int (0 : Int32)), .val .null, .unset, .unset] [(.int (0 : Int32))]))
        refine Go.st (fun _ kt => XS.ifYes X16.here hx rfl (pc0 := 131) (pc' := 139) rfl (hb hby at_131) rfl ((if0 _ _).trans (teq (by decide : (0 : Int32) = (0 : Int32))).1) (by decide) (by decide) kt) ?_
        show Go p e below _ (T16.setTop (mkF m 139 #[.val (.int fi), .val (.int pv), .val (.long qv), .second, .val (.int av), .val (.int wv), .val (.int fl), .val (.ref b1), .val (.ref bc4), .val (.int (1 : Int32)), .val (.int (0 : Int32)), .val (.int (0 : Int32)), .val .null, .unset, .unset] []))
        refine Go.st (fun _ kt => XS.iconst X16.here hx rfl (hb hby at_139) kt) ?_
        show Go p e below _ (T16.setTop (mkF m 140 #[.val (.int fi), .val (.int pv), .val (.long qv), .second, .val (.int av), .val (.int wv), .val (.int fl), .val (.ref b1), .val (.ref bc4), .val (.int (1 : Int32)), .val (.int (0 : Int32)), .val (.int (0 : Int32)), .val .null, .unset, .unset] [(.int (1 : Int32))]))
        refine Go.st (fun _ kt => XS.goto X16.here hx rfl (pc0 := 140) (pc' := 144) rfl (hb hby at_140) (by decide) (by decide) kt) ?_
        show Go p e below _ (T16.setTop (mkF m 144 #[.val (.int fi), .val (.int pv), .val (.long qv), .second, .val (.int av), .val (.int wv), .val (.int fl), .val (.ref b1), .val (.ref bc4), .val (.int (1 : Int32)), .val (.int (0 : Int32)), .val (.int (0 : Int32)), .val .null, .unset, .unset] [(.int (1 : Int32))]))
        refine Go.st (fun _ kt => XS.istore X16.here hx rfl (hb hby at_144) rfl (l' := #[.val (.int fi), .val (.int pv), .val (.long qv), .second, .val (.int av), .val (.int wv), .val (.int fl), .val (.ref b1), .val (.ref bc4), .val (.int (1 : Int32)), .val (.int (0 : Int32)), .val (.int (0 : Int32)), .val .null, .val (.int (1 : Int32)), .unset]) rfl kt) ?_
        show Go p e below _ (T16.setTop (mkF m 146 #[.val (.int fi), .val (.int pv), .val (.long qv), .second, .val (.int av), .val (.int wv), .val (.int fl), .val (.ref b1), .val (.ref bc4), .val (.int (1 : Int32)), .val (.int (0 : Int32)), .val (.int (0 : Int32)), .val .null, .val (.int (1 : Int32)), .unset] []))
        refine Go.st (fun _ kt => XS.iloadN X16.here hx rfl (hb hby at_146) rfl kt) ?_
        show Go p e below _ (T16.setTop (mkF m 147 #[.val (.int fi), .val (.int pv), .val (.long qv), .second, .val (.int av), .val (.int wv), .val (.int fl), .val (.ref b1), .val (.ref bc4), .val (.int (1 : Int32)), .val (.int (0 : Int32)), .val (.int (0 : Int32)), .val .null, .val (.int (1 : Int32)), .unset] [(.int pv)]))
        by_cases hc147_26 : pv = (0 : Int32)
        · refine Go.st (fun _ kt => XS.ifNo X16.here hx rfl (hb hby at_147) rfl ((if0 _ _).trans (teq hc147_26).2) kt) ?_
          show Go p e below _ (T16.setTop (mkF m 150 #[.val (.int fi), .val (.int pv), .val (.long qv), .second, .val (.int av), .val (.int wv), .val (.int fl), .val (.ref b1), .val (.ref bc4), .val (.int (1 : Int32)), .val (.int (0 : Int32)), .val (.int (0 : Int32)), .val .null, .val (.int (1 : Int32)), .unset] []))
          refine Go.st (fun _ kt => XS.lloadN X16.here hx rfl (hb hby at_150) rfl kt) ?_
          show Go p e below _ (T16.setTop (mkF m 151 #[.val (.int fi), .val (.int pv), .val (.long qv), .second, .val (.int av), .val (.int wv), .val (.int fl), .val (.ref b1), .val (.ref bc4), .val (.int (1 : Int32)), .val (.int (0 : Int32)), .val (.int (0 : Int32)), .val .null, .val (.int (1 : Int32)), .unset] [(.long qv)]))
          refine Go.st (fun _ kt => XS.lconst X16.here hx rfl (hb hby at_151) kt) ?_
          show Go p e below _ (T16.setTop (mkF m 152 #[.val (.int fi), .val (.int pv), .val (.long qv), .second, .val (.int av), .val (.int wv), .val (.int fl), .val (.ref b1), .val (.ref bc4), .val (.int (1 : Int32)), .val (.int (0 : Int32)), .val (.int (0 : Int32)), .val .null, .val (.int (1 : Int32)), .unset] [(.long (0 : Int64)), (.long qv)]))
          refine Go.st (fun _ kt => XS.lcmp X16.here hx rfl (hb hby at_152) rfl kt) ?_
          show Go p e below _ (T16.setTop (mkF m 153 #[.val (.int fi), .val (.int pv), .val (.long qv), .second, .val (.int av), .val (.int wv), .val (.int fl), .val (.ref b1), .val (.ref bc4), .val (.int (1 : Int32)), .val (.int (0 : Int32)), .val (.int (0 : Int32)), .val .null, .val (.int (1 : Int32)), .unset] [(.int (lcmpW qv (0 : Int64)))]))
          by_cases hc153_27 : (lcmpW qv (0 : Int64)) = (0 : Int32)
          · refine Go.st (fun _ kt => XS.ifNo X16.here hx rfl (hb hby at_153) rfl ((if0 _ _).trans (teq hc153_27).2) kt) ?_
            show Go p e below _ (T16.setTop (mkF m 156 #[.val (.int fi), .val (.int pv), .val (.long qv), .second, .val (.int av), .val (.int wv), .val (.int fl), .val (.ref b1), .val (.ref bc4), .val (.int (1 : Int32)), .val (.int (0 : Int32)), .val (.int (0 : Int32)), .val .null, .val (.int (1 : Int32)), .unset] []))
            refine Go.st (fun _ kt => XS.iload X16.here hx rfl (hb hby at_156) rfl kt) ?_
            show Go p e below _ (T16.setTop (mkF m 158 #[.val (.int fi), .val (.int pv), .val (.long qv), .second, .val (.int av), .val (.int wv), .val (.int fl), .val (.ref b1), .val (.ref bc4), .val (.int (1 : Int32)), .val (.int (0 : Int32)), .val (.int (0 : Int32)), .val .null, .val (.int (1 : Int32)), .unset] [(.int (1 : Int32))]))
            refine Go.st (fun _ kt => XS.ifNo X16.here hx rfl (hb hby at_158) rfl ((if0 _ _).trans (feq (by decide : ¬ ((1 : Int32) = (0 : Int32)))).1) kt) ?_
            show Go p e below _ (T16.setTop (mkF m 161 #[.val (.int fi), .val (.int pv), .val (.long qv), .second, .val (.int av), .val (.int wv), .val (.int fl), .val (.ref b1), .val (.ref bc4), .val (.int (1 : Int32)), .val (.int (0 : Int32)), .val (.int (0 : Int32)), .val .null, .val (.int (1 : Int32)), .unset] []))
            refine Go.st (fun _ kt => XS.iconst X16.here hx rfl (hb hby at_161) kt) ?_
            show Go p e below _ (T16.setTop (mkF m 162 #[.val (.int fi), .val (.int pv), .val (.long qv), .second, .val (.int av), .val (.int wv), .val (.int fl), .val (.ref b1), .val (.ref bc4), .val (.int (1 : Int32)), .val (.int (0 : Int32)), .val (.int (0 : Int32)), .val .null, .val (.int (1 : Int32)), .unset] [(.int (1 : Int32))]))
            refine Go.st (fun _ kt => XS.goto X16.here hx rfl (pc0 := 162) (pc' := 166) rfl (hb hby at_162) (by decide) (by decide) kt) ?_
            show Go p e below _ (T16.setTop (mkF m 166 #[.val (.int fi), .val (.int pv), .val (.long qv), .second, .val (.int av), .val (.int wv), .val (.int fl), .val (.ref b1), .val (.ref bc4), .val (.int (1 : Int32)), .val (.int (0 : Int32)), .val (.int (0 : Int32)), .val .null, .val (.int (1 : Int32)), .unset] [(.int (1 : Int32))]))
            refine Go.st (fun _ kt => XS.istore X16.here hx rfl (hb hby at_166) rfl (l' := #[.val (.int fi), .val (.int pv), .val (.long qv), .second, .val (.int av), .val (.int wv), .val (.int fl), .val (.ref b1), .val (.ref bc4), .val (.int (1 : Int32)), .val (.int (0 : Int32)), .val (.int (0 : Int32)), .val .null, .val (.int (1 : Int32)), .val (.int (1 : Int32))]) rfl kt) ?_
            show Go p e below _ (T16.setTop (mkF m 168 #[.val (.int fi), .val (.int pv), .val (.long qv), .second, .val (.int av), .val (.int wv), .val (.int fl), .val (.ref b1), .val (.ref bc4), .val (.int (1 : Int32)), .val (.int (0 : Int32)), .val (.int (0 : Int32)), .val .null, .val (.int (1 : Int32)), .val (.int (1 : Int32))] []))
            refine Go.st (fun _ kt => XS.iload X16.here hx rfl (hb hby at_168) rfl kt) ?_
            show Go p e below _ (T16.setTop (mkF m 170 #[.val (.int fi), .val (.int pv), .val (.long qv), .second, .val (.int av), .val (.int wv), .val (.int fl), .val (.ref b1), .val (.ref bc4), .val (.int (1 : Int32)), .val (.int (0 : Int32)), .val (.int (0 : Int32)), .val .null, .val (.int (1 : Int32)), .val (.int (1 : Int32))] [(.int (1 : Int32))]))
            refine Go.st (fun _ kt => XS.ifNo X16.here hx rfl (hb hby at_170) rfl ((if0 _ _).trans (feq (by decide : ¬ ((1 : Int32) = (0 : Int32)))).1) kt) ?_
            show Go p e below _ (T16.setTop (mkF m 173 #[.val (.int fi), .val (.int pv), .val (.long qv), .second, .val (.int av), .val (.int wv), .val (.int fl), .val (.ref b1), .val (.ref bc4), .val (.int (1 : Int32)), .val (.int (0 : Int32)), .val (.int (0 : Int32)), .val .null, .val (.int (1 : Int32)), .val (.int (1 : Int32))] []))
            refine Go.st (fun _ kt => XS.aload X16.here hx rfl (hb hby at_173) rfl rfl kt) ?_
            show Go p e below _ (T16.setTop (mkF m 175 #[.val (.int fi), .val (.int pv), .val (.long qv), .second, .val (.int av), .val (.int wv), .val (.int fl), .val (.ref b1), .val (.ref bc4), .val (.int (1 : Int32)), .val (.int (0 : Int32)), .val (.int (0 : Int32)), .val .null, .val (.int (1 : Int32)), .val (.int (1 : Int32))] [(.ref b1)]))
            refine Go.st (fun _ kt => XS.aload X16.here hx rfl (hb hby at_175) rfl rfl kt) ?_
            show Go p e below _ (T16.setTop (mkF m 177 #[.val (.int fi), .val (.int pv), .val (.long qv), .second, .val (.int av), .val (.int wv), .val (.int fl), .val (.ref b1), .val (.ref bc4), .val (.int (1 : Int32)), .val (.int (0 : Int32)), .val (.int (0 : Int32)), .val .null, .val (.int (1 : Int32)), .val (.int (1 : Int32))] [(.ref bc4), (.ref b1)]))
            have f28 := (((Fx4.keep K14q (ninS (Nat.ne_of_gt lt_b1_bc4) nin0)).keep K15q (ninS (Nat.ne_of_gt lt_b1_bc4) nin0)).keep K16q (ninS (Nat.ne_of_gt lt_b1_bc4) nin0))
            obtain ⟨cq29, kq29, q29a, q29b, q29c⟩ := isOf hZ rfl E_k16
            obtain ⟨_, _, ⟨T29, L29, k29, n29⟩, -, X29, ⟨Lc29, hQ29, l29, y29, z29⟩, st29⟩ := X16.virtualBack hx (y := (⟨"com/example/manyhands/manyhands/crowd/Totals", "countedSince", "(Lcom/example/manyhands/manyhands/crowd/Totals;)Z"⟩ : MethodName)) (z := (⟨"com/example/manyhands/manyhands/crowd/Totals", "countedSince", "(Lcom/example/manyhands/manyhands/crowd/Totals;)Z"⟩ : MethodName)) hown (mvT hZ (hw _ (List.mem_of_getElem? (i := 31) rfl))) (mvT hZ (hw _ (List.mem_of_getElem? (i := 32) rfl))) (notFace_of_selects (args := #[]) (mvT hZ (hw _ (List.mem_of_getElem? (i := 34) rfl)))) (mvT hZ (hw _ (List.mem_of_getElem? (i := 34) rfl))) (mvT hZ (hw _ (List.mem_of_getElem? (i := 33) rfl))) (by decide) (backOf (W := 0) (rm6n l Z a0 hw [] b1 bc4 (own_c1 qv (own_c1 av.toInt64 (own_c0 pv (own_c0 fi (0 : Int64))))) (own_c0 fi (0 : Int64)) T16.heap n0 Zs16 Fnk16 f28 (own_ne0 _ (Or.inr (Or.inr (fun q => hc126_17 (own_tz.mp q)))))) hZ (hw _ (List.mem_of_getElem? (i := 35) rfl)) (hw _ (List.mem_of_getElem? (i := 2) rfl)) (by decide) (by decide)) q29a q29c (g := (mkF m 177 #[.val (.int fi), .val (.int pv), .val (.long qv), .second, .val (.int av), .val (.int wv), .val (.int fl), .val (.ref b1), .val (.ref bc4), .val (.int (1 : Int32)), .val (.int (0 : Int32)), .val (.int (0 : Int32)), .val .null, .val (.int (1 : Int32)), .val (.int (1 : Int32))] [(.ref bc4), (.ref b1)])) rfl (by rw [hml]; rfl) (Steps.refl _) (argsL := [(.ref bc4)]) (rest := []) (lenOf own_pd8 rfl) rfl (by show 2 * 0 + _ ≤ _; exact Nat.le_of_eq rfl) (hb hby at_177) (fun _ _ => ⟨rfl, rfl, (by decide : 2 + 0 ≤ _), (by decide : 10 + 0 ≤ _)⟩)
            dsimp only [Pt.U, Pt.locs, Pt.cells, Pt.slots] at X29 l29 y29 z29 st29 hQ29
            subst l29 y29 z29
            obtain ⟨rfl, N29q, e29⟩ := hQ29
            have N29 := Fr.app N16 N29q
            refine Go.tr st29 ?_
            show Go p e below _ (T29.setTop (mkF m 180 #[.val (.int fi), .val (.int pv), .val (.long qv), .second, .val (.int av), .val (.int wv), .val (.int fl), .val (.ref b1), .val (.ref bc4), .val (.int (1 : Int32)), .val (.int (0 : Int32)), .val (.int (0 : Int32)), .val .null, .val (.int (1 : Int32)), .val (.int (1 : Int32))] [(.int (1 : Int32))]))
            refine Go.st (fun _ kt => XS.iload X29.here hx rfl (hb hby at_180) rfl kt) ?_
            show Go p e below _ (T29.setTop (mkF m 182 #[.val (.int fi), .val (.int pv), .val (.long qv), .second, .val (.int av), .val (.int wv), .val (.int fl), .val (.ref b1), .val (.ref bc4), .val (.int (1 : Int32)), .val (.int (0 : Int32)), .val (.int (0 : Int32)), .val .null, .val (.int (1 : Int32)), .val (.int (1 : Int32))] [(.int (1 : Int32)), (.int (1 : Int32))]))
            refine Go.st (fun _ kt => XS.icmpNo X29.here hx rfl (hb hby at_182) rfl (teq (by decide : (1 : Int32) = (1 : Int32))).2 kt) ?_
            show Go p e below _ (T29.setTop (mkF m 185 #[.val (.int fi), .val (.int pv), .val (.long qv), .second, .val (.int av), .val (.int wv), .val (.int fl), .val (.ref b1), .val (.ref bc4), .val (.int (1 : Int32)), .val (.int (0 : Int32)), .val (.int (0 : Int32)), .val .null, .val (.int (1 : Int32)), .val (.int (1 : Int32))] []))
            refine Go.st (fun _ kt => XS.iconst X29.here hx rfl (hb hby at_185) kt) ?_
            show Go p e below _ (T29.setTop (mkF m 186 #[.val (.int fi), .val (.int pv), .val (.long qv), .second, .val (.int av), .val (.int wv), .val (.int fl), .val (.ref b1), .val (.ref bc4), .val (.int (1 : Int32)), .val (.int (0 : Int32)), .val (.int (0 : Int32)), .val .null, .val (.int (1 : Int32)), .val (.int (1 : Int32))] [(.int (1 : Int32))]))
            refine Go.st (fun _ kt => XS.goto X29.here hx rfl (pc0 := 186) (pc' := 190) rfl (hb hby at_186) (by decide) (by decide) kt) ?_
            show Go p e below _ (T29.setTop (mkF m 190 #[.val (.int fi), .val (.int pv), .val (.long qv), .second, .val (.int av), .val (.int wv), .val (.int fl), .val (.ref b1), .val (.ref bc4), .val (.int (1 : Int32)), .val (.int (0 : Int32)), .val (.int (0 : Int32)), .val .null, .val (.int (1 : Int32)), .val (.int (1 : Int32))] [(.int (1 : Int32))]))
            refine Go.retN X29 hx (t := .boolean) Bd.returns (by simp) (BodyLoose.notSynchronized Bd) (hb hby at_190) (Q := (Q_rm0 Z fi pv qv av wv fl h0 n0)) (by decide) (by decide) ?_
            show (Q_rm0 Z fi pv qv av wv fl h0 n0) _ T29.heap _
            rw [e29]
            exact ⟨rfl, N29⟩
          · refine Go.st (fun _ kt => XS.ifYes X16.here hx rfl (pc0 := 153) (pc' := 161) rfl (hb hby at_153) rfl ((if0 _ _).trans (feq hc153_27).2) (by decide) (by decide) kt) ?_
            show Go p e below _ (T16.setTop (mkF m 161 #[.val (.int fi), .val (.int pv), .val (.long qv), .second, .val (.int av), .val (.int wv), .val (.int fl), .val (.ref b1), .val (.ref bc4), .val (.int (1 : Int32)), .val (.int (0 : Int32)), .val (.int (0 : Int32)), .val .null, .val (.int (1 : Int32)), .unset] []))
            refine Go.st (fun _ kt => XS.iconst X16.here hx rfl (hb hby at_161) kt) ?_
            show Go p e below _ (T16.setTop (mkF m 162 #[.val (.int fi), .val (.int pv), .val (.long qv), .second, .val (.int av), .val (.int wv), .val (.int fl), .val (.ref b1), .val (.ref bc4), .val (.int (1 : Int32)), .val (.int (0 : Int32)), .val (.int (0 : Int32)), .val .null, .val (.int (1 : Int32)), .unset] [(.int (1 : Int32))]))
            refine Go.st (fun _ kt => XS.goto X16.here hx rfl (pc0 := 162) (pc' := 166) rfl (hb hby at_162) (by decide) (by decide) kt) ?_
            show Go p e below _ (T16.setTop (mkF m 166 #[.val (.int fi), .val (.int pv), .val (.long qv), .second, .val (.int av), .val (.int wv), .val (.int fl), .val (.ref b1), .val (.ref bc4), .val (.int (1 : Int32)), .val (.int (0 : Int32)), .val (.int (0 : Int32)), .val .null, .val (.int (1 : Int32)), .unset] [(.int (1 : Int32))]))
            refine Go.st (fun _ kt => XS.istore X16.here hx rfl (hb hby at_166) rfl (l' := #[.val (.int fi), .val (.int pv), .val (.long qv), .second, .val (.int av), .val (.int wv), .val (.int fl), .val (.ref b1), .val (.ref bc4), .val (.int (1 : Int32)), .val (.int (0 : Int32)), .val (.int (0 : Int32)), .val .null, .val (.int (1 : Int32)), .val (.int (1 : Int32))]) rfl kt) ?_
            show Go p e below _ (T16.setTop (mkF m 168 #[.val (.int fi), .val (.int pv), .val (.long qv), .second, .val (.int av), .val (.int wv), .val (.int fl), .val (.ref b1), .val (.ref bc4), .val (.int (1 : Int32)), .val (.int (0 : Int32)), .val (.int (0 : Int32)), .val .null, .val (.int (1 : Int32)), .val (.int (1 : Int32))] []))
            refine Go.st (fun _ kt => XS.iload X16.here hx rfl (hb hby at_168) rfl kt) ?_
            show Go p e below _ (T16.setTop (mkF m 170 #[.val (.int fi), .val (.int pv), .val (.long qv), .second, .val (.int av), .val (.int wv), .val (.int fl), .val (.ref b1), .val (.ref bc4), .val (.int (1 : Int32)), .val (.int (0 : Int32)), .val (.int (0 : Int32)), .val .null, .val (.int (1 : Int32)), .val (.int (1 : Int32))] [(.int (1 : Int32))]))
            refine Go.st (fun _ kt => XS.ifNo X16.here hx rfl (hb hby at_170) rfl ((if0 _ _).trans (feq (by decide : ¬ ((1 : Int32) = (0 : Int32)))).1) kt) ?_
            show Go p e below _ (T16.setTop (mkF m 173 #[.val (.int fi), .val (.int pv), .val (.long qv), .second, .val (.int av), .val (.int wv), .val (.int fl), .val (.ref b1), .val (.ref bc4), .val (.int (1 : Int32)), .val (.int (0 : Int32)), .val (.int (0 : Int32)), .val .null, .val (.int (1 : Int32)), .val (.int (1 : Int32))] []))
            refine Go.st (fun _ kt => XS.aload X16.here hx rfl (hb hby at_173) rfl rfl kt) ?_
            show Go p e below _ (T16.setTop (mkF m 175 #[.val (.int fi), .val (.int pv), .val (.long qv), .second, .val (.int av), .val (.int wv), .val (.int fl), .val (.ref b1), .val (.ref bc4), .val (.int (1 : Int32)), .val (.int (0 : Int32)), .val (.int (0 : Int32)), .val .null, .val (.int (1 : Int32)), .val (.int (1 : Int32))] [(.ref b1)]))
            refine Go.st (fun _ kt => XS.aload X16.here hx rfl (hb hby at_175) rfl rfl kt) ?_
            show Go p e below _ (T16.setTop (mkF m 177 #[.val (.int fi), .val (.int pv), .val (.long qv), .second, .val (.int av), .val (.int wv), .val (.int fl), .val (.ref b1), .val (.ref bc4), .val (.int (1 : Int32)), .val (.int (0 : Int32)), .val (.int (0 : Int32)), .val .null, .val (.int (1 : Int32)), .val (.int (1 : Int32))] [(.ref bc4), (.ref b1)]))
            have f30 := (((Fx4.keep K14q (ninS (Nat.ne_of_gt lt_b1_bc4) nin0)).keep K15q (ninS (Nat.ne_of_gt lt_b1_bc4) nin0)).keep K16q (ninS (Nat.ne_of_gt lt_b1_bc4) nin0))
            obtain ⟨cq31, kq31, q31a, q31b, q31c⟩ := isOf hZ rfl E_k16
            obtain ⟨_, _, ⟨T31, L31, k31, n31⟩, -, X31, ⟨Lc31, hQ31, l31, y31, z31⟩, st31⟩ := X16.virtualBack hx (y := (⟨"com/example/manyhands/manyhands/crowd/Totals", "countedSince", "(Lcom/example/manyhands/manyhands/crowd/Totals;)Z"⟩ : MethodName)) (z := (⟨"com/example/manyhands/manyhands/crowd/Totals", "countedSince", "(Lcom/example/manyhands/manyhands/crowd/Totals;)Z"⟩ : MethodName)) hown (mvT hZ (hw _ (List.mem_of_getElem? (i := 31) rfl))) (mvT hZ (hw _ (List.mem_of_getElem? (i := 32) rfl))) (notFace_of_selects (args := #[]) (mvT hZ (hw _ (List.mem_of_getElem? (i := 34) rfl)))) (mvT hZ (hw _ (List.mem_of_getElem? (i := 34) rfl))) (mvT hZ (hw _ (List.mem_of_getElem? (i := 33) rfl))) (by decide) (backOf (W := 0) (rm6n l Z a0 hw [] b1 bc4 (own_c1 qv (own_c1 av.toInt64 (own_c0 pv (own_c0 fi (0 : Int64))))) (own_c0 fi (0 : Int64)) T16.heap n0 Zs16 Fnk16 f30 (own_ne0 _ (Or.inr (Or.inl (fun q => hc153_27 ((lw_eq _ _).mpr q)))))) hZ (hw _ (List.mem_of_getElem? (i := 35) rfl)) (hw _ (List.mem_of_getElem? (i := 2) rfl)) (by decide) (by decide)) q31a q31c (g := (mkF m 177 #[.val (.int fi), .val (.int pv), .val (.long qv), .second, .val (.int av), .val (.int wv), .val (.int fl), .val (.ref b1), .val (.ref bc4), .val (.int (1 : Int32)), .val (.int (0 : Int32)), .val (.int (0 : Int32)), .val .null, .val (.int (1 : Int32)), .val (.int (1 : Int32))] [(.ref bc4), (.ref b1)])) rfl (by rw [hml]; rfl) (Steps.refl _) (argsL := [(.ref bc4)]) (rest := []) (lenOf own_pd8 rfl) rfl (by show 2 * 0 + _ ≤ _; exact Nat.le_of_eq rfl) (hb hby at_177) (fun _ _ => ⟨rfl, rfl, (by decide : 2 + 0 ≤ _), (by decide : 10 + 0 ≤ _)⟩)
            dsimp only [Pt.U, Pt.locs, Pt.cells, Pt.slots] at X31 l31 y31 z31 st31 hQ31
            subst l31 y31 z31
            obtain ⟨rfl, N31q, e31⟩ := hQ31
            have N31 := Fr.app N16 N31q
            refine Go.tr st31 ?_
            show Go p e below _ (T31.setTop (mkF m 180 #[.val (.int fi), .val (.int pv), .val (.long qv), .second, .val (.int av), .val (.int wv), .val (.int fl), .val (.ref b1), .val (.ref bc4), .val (.int (1 : Int32)), .val (.int (0 : Int32)), .val (.int (0 : Int32)), .val .null, .val (.int (1 : Int32)), .val (.int (1 : Int32))] [(.int (1 : Int32))]))
            refine Go.st (fun _ kt => XS.iload X31.here hx rfl (hb hby at_180) rfl kt) ?_
            show Go p e below _ (T31.setTop (mkF m 182 #[.val (.int fi), .val (.int pv), .val (.long qv), .second, .val (.int av), .val (.int wv), .val (.int fl), .val (.ref b1), .val (.ref bc4), .val (.int (1 : Int32)), .val (.int (0 : Int32)), .val (.int (0 : Int32)), .val .null, .val (.int (1 : Int32)), .val (.int (1 : Int32))] [(.int (1 : Int32)), (.int (1 : Int32))]))
            refine Go.st (fun _ kt => XS.icmpNo X31.here hx rfl (hb hby at_182) rfl (teq (by decide : (1 : Int32) = (1 : Int32))).2 kt) ?_
            show Go p e below _ (T31.setTop (mkF m 185 #[.val (.int fi), .val (.int pv), .val (.long qv), .second, .val (.int av), .val (.int wv), .val (.int fl), .val (.ref b1), .val (.ref bc4), .val (.int (1 : Int32)), .val (.int (0 : Int32)), .val (.int (0 : Int32)), .val .null, .val (.int (1 : Int32)), .val (.int (1 : Int32))] []))
            refine Go.st (fun _ kt => XS.iconst X31.here hx rfl (hb hby at_185) kt) ?_
            show Go p e below _ (T31.setTop (mkF m 186 #[.val (.int fi), .val (.int pv), .val (.long qv), .second, .val (.int av), .val (.int wv), .val (.int fl), .val (.ref b1), .val (.ref bc4), .val (.int (1 : Int32)), .val (.int (0 : Int32)), .val (.int (0 : Int32)), .val .null, .val (.int (1 : Int32)), .val (.int (1 : Int32))] [(.int (1 : Int32))]))
            refine Go.st (fun _ kt => XS.goto X31.here hx rfl (pc0 := 186) (pc' := 190) rfl (hb hby at_186) (by decide) (by decide) kt) ?_
            show Go p e below _ (T31.setTop (mkF m 190 #[.val (.int fi), .val (.int pv), .val (.long qv), .second, .val (.int av), .val (.int wv), .val (.int fl), .val (.ref b1), .val (.ref bc4), .val (.int (1 : Int32)), .val (.int (0 : Int32)), .val (.int (0 : Int32)), .val .null, .val (.int (1 : Int32)), .val (.int (1 : Int32))] [(.int (1 : Int32))]))
            refine Go.retN X31 hx (t := .boolean) Bd.returns (by simp) (BodyLoose.notSynchronized Bd) (hb hby at_190) (Q := (Q_rm0 Z fi pv qv av wv fl h0 n0)) (by decide) (by decide) ?_
            show (Q_rm0 Z fi pv qv av wv fl h0 n0) _ T31.heap _
            rw [e31]
            exact ⟨rfl, N31⟩
        · refine Go.st (fun _ kt => XS.ifYes X16.here hx rfl (pc0 := 147) (pc' := 161) rfl (hb hby at_147) rfl ((if0 _ _).trans (feq hc147_26).2) (by decide) (by decide) kt) ?_
          show Go p e below _ (T16.setTop (mkF m 161 #[.val (.int fi), .val (.int pv), .val (.long qv), .second, .val (.int av), .val (.int wv), .val (.int fl), .val (.ref b1), .val (.ref bc4), .val (.int (1 : Int32)), .val (.int (0 : Int32)), .val (.int (0 : Int32)), .val .null, .val (.int (1 : Int32)), .unset] []))
          refine Go.st (fun _ kt => XS.iconst X16.here hx rfl (hb hby at_161) kt) ?_
          show Go p e below _ (T16.setTop (mkF m 162 #[.val (.int fi), .val (.int pv), .val (.long qv), .second, .val (.int av), .val (.int wv), .val (.int fl), .val (.ref b1), .val (.ref bc4), .val (.int (1 : Int32)), .val (.int (0 : Int32)), .val (.int (0 : Int32)), .val .null, .val (.int (1 : Int32)), .unset] [(.int (1 : Int32))]))
          refine Go.st (fun _ kt => XS.goto X16.here hx rfl (pc0 := 162) (pc' := 166) rfl (hb hby at_162) (by decide) (by decide) kt) ?_
          show Go p e below _ (T16.setTop (mkF m 166 #[.val (.int fi), .val (.int pv), .val (.long qv), .second, .val (.int av), .val (.int wv), .val (.int fl), .val (.ref b1), .val (.ref bc4), .val (.int (1 : Int32)), .val (.int (0 : Int32)), .val (.int (0 : Int32)), .val .null, .val (.int (1 : Int32)), .unset] [(.int (1 : Int32))]))
          refine Go.st (fun _ kt => XS.istore X16.here hx rfl (hb hby at_166) rfl (l' := #[.val (.int fi), .val (.int pv), .val (.long qv), .second, .val (.int av), .val (.int wv), .val (.int fl), .val (.ref b1), .val (.ref bc4), .val (.int (1 : Int32)), .val (.int (0 : Int32)), .val (.int (0 : Int32)), .val .null, .val (.int (1 : Int32)), .val (.int (1 : Int32))]) rfl kt) ?_
          show Go p e below _ (T16.setTop (mkF m 168 #[.val (.int fi), .val (.int pv), .val (.long qv), .second, .val (.int av), .val (.int wv), .val (.int fl), .val (.ref b1), .val (.ref bc4), .val (.int (1 : Int32)), .val (.int (0 : Int32)), .val (.int (0 : Int32)), .val .null, .val (.int (1 : Int32)), .val (.int (1 : Int32))] []))
          refine Go.st (fun _ kt => XS.iload X16.here hx rfl (hb hby at_168) rfl kt) ?_
          show Go p e below _ (T16.setTop (mkF m 170 #[.val (.int fi), .val (.int pv), .val (.long qv), .second, .val (.int av), .val (.int wv), .val (.int fl), .val (.ref b1), .val (.ref bc4), .val (.int (1 : Int32)), .val (.int (0 : Int32)), .val (.int (0 : Int32)), .val .null, .val (.int (1 : Int32)), .val (.int (1 : Int32))] [(.int (1 : Int32))]))
          refine Go.st (fun _ kt => XS.ifNo X16.here hx rfl (hb hby at_170) rfl ((if0 _ _).trans (feq (by decide : ¬ ((1 : Int32) = (0 : Int32)))).1) kt) ?_
          show Go p e below _ (T16.setTop (mkF m 173 #[.val (.int fi), .val (.int pv), .val (.long qv), .second, .val (.int av), .val (.int wv), .val (.int fl), .val (.ref b1), .val (.ref bc4), .val (.int (1 : Int32)), .val (.int (0 : Int32)), .val (.int (0 : Int32)), .val .null, .val (.int (1 : Int32)), .val (.int (1 : Int32))] []))
          refine Go.st (fun _ kt => XS.aload X16.here hx rfl (hb hby at_173) rfl rfl kt) ?_
          show Go p e below _ (T16.setTop (mkF m 175 #[.val (.int fi), .val (.int pv), .val (.long qv), .second, .val (.int av), .val (.int wv), .val (.int fl), .val (.ref b1), .val (.ref bc4), .val (.int (1 : Int32)), .val (.int (0 : Int32)), .val (.int (0 : Int32)), .val .null, .val (.int (1 : Int32)), .val (.int (1 : Int32))] [(.ref b1)]))
          refine Go.st (fun _ kt => XS.aload X16.here hx rfl (hb hby at_175) rfl rfl kt) ?_
          show Go p e below _ (T16.setTop (mkF m 177 #[.val (.int fi), .val (.int pv), .val (.long qv), .second, .val (.int av), .val (.int wv), .val (.int fl), .val (.ref b1), .val (.ref bc4), .val (.int (1 : Int32)), .val (.int (0 : Int32)), .val (.int (0 : Int32)), .val .null, .val (.int (1 : Int32)), .val (.int (1 : Int32))] [(.ref bc4), (.ref b1)]))
          have f32 := (((Fx4.keep K14q (ninS (Nat.ne_of_gt lt_b1_bc4) nin0)).keep K15q (ninS (Nat.ne_of_gt lt_b1_bc4) nin0)).keep K16q (ninS (Nat.ne_of_gt lt_b1_bc4) nin0))
          obtain ⟨cq33, kq33, q33a, q33b, q33c⟩ := isOf hZ rfl E_k16
          obtain ⟨_, _, ⟨T33, L33, k33, n33⟩, -, X33, ⟨Lc33, hQ33, l33, y33, z33⟩, st33⟩ := X16.virtualBack hx (y := (⟨"com/example/manyhands/manyhands/crowd/Totals", "countedSince", "(Lcom/example/manyhands/manyhands/crowd/Totals;)Z"⟩ : MethodName)) (z := (⟨"com/example/manyhands/manyhands/crowd/Totals", "countedSince", "(Lcom/example/manyhands/manyhands/crowd/Totals;)Z"⟩ : MethodName)) hown (mvT hZ (hw _ (List.mem_of_getElem? (i := 31) rfl))) (mvT hZ (hw _ (List.mem_of_getElem? (i := 32) rfl))) (notFace_of_selects (args := #[]) (mvT hZ (hw _ (List.mem_of_getElem? (i := 34) rfl)))) (mvT hZ (hw _ (List.mem_of_getElem? (i := 34) rfl))) (mvT hZ (hw _ (List.mem_of_getElem? (i := 33) rfl))) (by decide) (backOf (W := 0) (rm6n l Z a0 hw [] b1 bc4 (own_c1 qv (own_c1 av.toInt64 (own_c0 pv (own_c0 fi (0 : Int64))))) (own_c0 fi (0 : Int64)) T16.heap n0 Zs16 Fnk16 f32 (own_ne0 _ (Or.inl hc147_26))) hZ (hw _ (List.mem_of_getElem? (i := 35) rfl)) (hw _ (List.mem_of_getElem? (i := 2) rfl)) (by decide) (by decide)) q33a q33c (g := (mkF m 177 #[.val (.int fi), .val (.int pv), .val (.long qv), .second, .val (.int av), .val (.int wv), .val (.int fl), .val (.ref b1), .val (.ref bc4), .val (.int (1 : Int32)), .val (.int (0 : Int32)), .val (.int (0 : Int32)), .val .null, .val (.int (1 : Int32)), .val (.int (1 : Int32))] [(.ref bc4), (.ref b1)])) rfl (by rw [hml]; rfl) (Steps.refl _) (argsL := [(.ref bc4)]) (rest := []) (lenOf own_pd8 rfl) rfl (by show 2 * 0 + _ ≤ _; exact Nat.le_of_eq rfl) (hb hby at_177) (fun _ _ => ⟨rfl, rfl, (by decide : 2 + 0 ≤ _), (by decide : 10 + 0 ≤ _)⟩)
          dsimp only [Pt.U, Pt.locs, Pt.cells, Pt.slots] at X33 l33 y33 z33 st33 hQ33
          subst l33 y33 z33
          obtain ⟨rfl, N33q, e33⟩ := hQ33
          have N33 := Fr.app N16 N33q
          refine Go.tr st33 ?_
          show Go p e below _ (T33.setTop (mkF m 180 #[.val (.int fi), .val (.int pv), .val (.long qv), .second, .val (.int av), .val (.int wv), .val (.int fl), .val (.ref b1), .val (.ref bc4), .val (.int (1 : Int32)), .val (.int (0 : Int32)), .val (.int (0 : Int32)), .val .null, .val (.int (1 : Int32)), .val (.int (1 : Int32))] [(.int (1 : Int32))]))
          refine Go.st (fun _ kt => XS.iload X33.here hx rfl (hb hby at_180) rfl kt) ?_
          show Go p e below _ (T33.setTop (mkF m 182 #[.val (.int fi), .val (.int pv), .val (.long qv), .second, .val (.int av), .val (.int wv), .val (.int fl), .val (.ref b1), .val (.ref bc4), .val (.int (1 : Int32)), .val (.int (0 : Int32)), .val (.int (0 : Int32)), .val .null, .val (.int (1 : Int32)), .val (.int (1 : Int32))] [(.int (1 : Int32)), (.int (1 : Int32))]))
          refine Go.st (fun _ kt => XS.icmpNo X33.here hx rfl (hb hby at_182) rfl (teq (by decide : (1 : Int32) = (1 : Int32))).2 kt) ?_
          show Go p e below _ (T33.setTop (mkF m 185 #[.val (.int fi), .val (.int pv), .val (.long qv), .second, .val (.int av), .val (.int wv), .val (.int fl), .val (.ref b1), .val (.ref bc4), .val (.int (1 : Int32)), .val (.int (0 : Int32)), .val (.int (0 : Int32)), .val .null, .val (.int (1 : Int32)), .val (.int (1 : Int32))] []))
          refine Go.st (fun _ kt => XS.iconst X33.here hx rfl (hb hby at_185) kt) ?_
          show Go p e below _ (T33.setTop (mkF m 186 #[.val (.int fi), .val (.int pv), .val (.long qv), .second, .val (.int av), .val (.int wv), .val (.int fl), .val (.ref b1), .val (.ref bc4), .val (.int (1 : Int32)), .val (.int (0 : Int32)), .val (.int (0 : Int32)), .val .null, .val (.int (1 : Int32)), .val (.int (1 : Int32))] [(.int (1 : Int32))]))
          refine Go.st (fun _ kt => XS.goto X33.here hx rfl (pc0 := 186) (pc' := 190) rfl (hb hby at_186) (by decide) (by decide) kt) ?_
          show Go p e below _ (T33.setTop (mkF m 190 #[.val (.int fi), .val (.int pv), .val (.long qv), .second, .val (.int av), .val (.int wv), .val (.int fl), .val (.ref b1), .val (.ref bc4), .val (.int (1 : Int32)), .val (.int (0 : Int32)), .val (.int (0 : Int32)), .val .null, .val (.int (1 : Int32)), .val (.int (1 : Int32))] [(.int (1 : Int32))]))
          refine Go.retN X33 hx (t := .boolean) Bd.returns (by simp) (BodyLoose.notSynchronized Bd) (hb hby at_190) (Q := (Q_rm0 Z fi pv qv av wv fl h0 n0)) (by decide) (by decide) ?_
          show (Q_rm0 Z fi pv qv av wv fl h0 n0) _ T33.heap _
          rw [e33]
          exact ⟨rfl, N33⟩
    · refine Go.st (fun _ kt => XS.ifNo X6.here hx rfl (hb hby at_57) rfl ((if0 _ _).trans (feq hc57_9).1) kt) ?_
      show Go p e below _ (T6.setTop (mkF m 60 #[.val (.int fi), .val (.int pv), .val (.long qv), .second, .val (.int av), .val (.int wv), .val (.int fl), .val (.ref b1), .val (.ref bc4), .val (.int (1 : Int32)), .val (.int (0 : Int32)), .unset, .unset, .unset, .unset] []))
      refine Go.st (fun _ kt => XS.iconst X6.here hx rfl (hb hby at_60) kt) ?_
      show Go p e below _ (T6.setTop (mkF m 61 #[.val (.int fi), .val (.int pv), .val (.long qv), .second, .val (.int av), .val (.int wv), .val (.int fl), .val (.ref b1), .val (.ref bc4), .val (.int (1 : Int32)), .val (.int (0 : Int32)), .unset, .unset, .unset, .unset] [(.int (1 : Int32))]))
      refine Go.st (fun _ kt => XS.goto X6.here hx rfl (pc0 := 61) (pc' := 65) rfl (hb hby at_61) (by decide) (by decide) kt) ?_
      show Go p e below _ (T6.setTop (mkF m 65 #[.val (.int fi), .val (.int pv), .val (.long qv), .second, .val (.int av), .val (.int wv), .val (.int fl), .val (.ref b1), .val (.ref bc4), .val (.int (1 : Int32)), .val (.int (0 : Int32)), .unset, .unset, .unset, .unset] [(.int (1 : Int32))]))
      refine Go.st (fun _ kt => XS.istore X6.here hx rfl (hb hby at_65) rfl (l' := #[.val (.int fi), .val (.int pv), .val (.long qv), .second, .val (.int av), .val (.int wv), .val (.int fl), .val (.ref b1), .val (.ref bc4), .val (.int (1 : Int32)), .val (.int (0 : Int32)), .val (.int (1 : Int32)), .unset, .unset, .unset]) rfl kt) ?_
      show Go p e below _ (T6.setTop (mkF m 67 #[.val (.int fi), .val (.int pv), .val (.long qv), .second, .val (.int av), .val (.int wv), .val (.int fl), .val (.ref b1), .val (.ref bc4), .val (.int (1 : Int32)), .val (.int (0 : Int32)), .val (.int (1 : Int32)), .unset, .unset, .unset] []))
      refine Go.st (fun _ kt => XS.aconstNull X6.here hx rfl (hb hby at_67) kt) ?_
      show Go p e below _ (T6.setTop (mkF m 68 #[.val (.int fi), .val (.int pv), .val (.long qv), .second, .val (.int av), .val (.int wv), .val (.int fl), .val (.ref b1), .val (.ref bc4), .val (.int (1 : Int32)), .val (.int (0 : Int32)), .val (.int (1 : Int32)), .unset, .unset, .unset] [.null]))
      refine Go.st (fun _ kt => XS.astore X6.here hx rfl (hb hby at_68) rfl rfl (l' := #[.val (.int fi), .val (.int pv), .val (.long qv), .second, .val (.int av), .val (.int wv), .val (.int fl), .val (.ref b1), .val (.ref bc4), .val (.int (1 : Int32)), .val (.int (0 : Int32)), .val (.int (1 : Int32)), .val .null, .unset, .unset]) rfl kt) ?_
      show Go p e below _ (T6.setTop (mkF m 70 #[.val (.int fi), .val (.int pv), .val (.long qv), .second, .val (.int av), .val (.int wv), .val (.int fl), .val (.ref b1), .val (.ref bc4), .val (.int (1 : Int32)), .val (.int (0 : Int32)), .val (.int (1 : Int32)), .val .null, .unset, .unset] []))
      refine Go.st (fun _ kt => XS.iload X6.here hx rfl (hb hby at_70) rfl kt) ?_
      show Go p e below _ (T6.setTop (mkF m 72 #[.val (.int fi), .val (.int pv), .val (.long qv), .second, .val (.int av), .val (.int wv), .val (.int fl), .val (.ref b1), .val (.ref bc4), .val (.int (1 : Int32)), .val (.int (0 : Int32)), .val (.int (1 : Int32)), .val .null, .unset, .unset] [(.int (0 : Int32))]))
      refine Go.st (fun _ kt => XS.ifYes X6.here hx rfl (pc0 := 72) (pc' := 82) rfl (hb hby at_72) rfl ((if0 _ _).trans (teq (by decide : (0 : Int32) = (0 : Int32))).1) (by decide) (by decide) kt) ?_
      show Go p e below _ (T6.setTop (mkF m 82 #[.val (.int fi), .val (.int pv), .val (.long qv), .second, .val (.int av), .val (.int wv), .val (.int fl), .val (.ref b1), .val (.ref bc4), .val (.int (1 : Int32)), .val (.int (0 : Int32)), .val (.int (1 : Int32)), .val .null, .unset, .unset] []))
      refine Go.st (fun _ kt => XS.aload X6.here hx rfl (hb hby at_82) rfl rfl kt) ?_
      show Go p e below _ (T6.setTop (mkF m 84 #[.val (.int fi), .val (.int pv), .val (.long qv), .second, .val (.int av), .val (.int wv), .val (.int fl), .val (.ref b1), .val (.ref bc4), .val (.int (1 : Int32)), .val (.int (0 : Int32)), .val (.int (1 : Int32)), .val .null, .unset, .unset] [(.ref b1)]))
      refine Go.st (fun _ kt => XS.iloadN X6.here hx rfl (hb hby at_84) rfl kt) ?_
      show Go p e below _ (T6.setTop (mkF m 85 #[.val (.int fi), .val (.int pv), .val (.long qv), .second, .val (.int av), .val (.int wv), .val (.int fl), .val (.ref b1), .val (.ref bc4), .val (.int (1 : Int32)), .val (.int (0 : Int32)), .val (.int (1 : Int32)), .val .null, .unset, .unset] [(.int pv), (.ref b1)]))
      have f34 := (Ftk3.keep K4q nin0)
      have f35 := (Fsk3.keep K4q nin0)
      have f36 := (Fck3.keep K4q nin0)
      have f37 := (Fhk3.keep K4q nin0)
      obtain ⟨cq38, kq38, q38a, q38b, q38c⟩ := isOf hZ e6 f7
      obtain ⟨_, _, ⟨T38, L38, k38, n38⟩, -, X38, ⟨Lc38, hQ38, l38, y38, z38⟩, st38⟩ := X6.virtualBack hx (y := (⟨"com/example/manyhands/manyhands/crowd/Totals", "addTasks", "(I)V"⟩ : MethodName)) (z := (⟨"com/example/manyhands/manyhands/crowd/Totals", "addTasks", "(I)V"⟩ : MethodName)) hown (mvT hZ (hw _ (List.mem_of_getElem? (i := 9) rfl))) (mvT hZ (hw _ (List.mem_of_getElem? (i := 10) rfl))) (notFace_of_selects (args := #[]) (mvT hZ (hw _ (List.mem_of_getElem? (i := 12) rfl)))) (mvT hZ (hw _ (List.mem_of_getElem? (i := 12) rfl))) (mvT hZ (hw _ (List.mem_of_getElem? (i := 11) rfl))) (by decide) (own_backSync (W := 0) (rm3 l Z a0 hw [] b1 pv (own_c0 fi (0 : Int64)) .null T4.heap n0 Zs4 ⟨f7, ⟨_, f34⟩, ⟨_, f35⟩, ⟨_, f36⟩, f5, f37⟩ U4q gn_b1) hZ (hw _ (List.mem_of_getElem? (i := 13) rfl)) (hw _ (List.mem_of_getElem? (i := 11) rfl)) (hw _ (List.mem_of_getElem? (i := 2) rfl)) U4q (by decide) (by decide)) q38a q38c (g := (mkF m 85 #[.val (.int fi), .val (.int pv), .val (.long qv), .second, .val (.int av), .val (.int wv), .val (.int fl), .val (.ref b1), .val (.ref bc4), .val (.int (1 : Int32)), .val (.int (0 : Int32)), .val (.int (1 : Int32)), .val .null, .unset, .unset] [(.int pv), (.ref b1)])) rfl (by rw [hml]; rfl) (Steps.refl _) (argsL := [(.int pv)]) (rest := []) (lenOf own_pd6 rfl) rfl (by show 2 * 0 + _ ≤ _; exact Nat.le_of_eq rfl) (hb hby at_85) (fun _ _ => ⟨rfl, e6, (by decide : 2 + 0 ≤ _), (by decide : 10 + 0 ≤ _)⟩)
      dsimp only [Pt.U, Pt.locs, Pt.cells, Pt.slots] at X38 l38 y38 z38 st38 hQ38
      subst l38 y38 z38
      obtain ⟨rfl, N38q, K38q, U38q, P38⟩ := hQ38
      have Zs38 : n0 ≤ T38.heap.size := Nat.le_trans Zs4 K38q.1
      have N38 := Fr.app N6 N38q
      obtain ⟨E_k38, ⟨ztk38, Ftk38⟩, ⟨zsk38, Fsk38⟩, ⟨zck38, Fck38⟩, Fnk38, Fhk38⟩ := id P38
      refine Go.tr st38 ?_
      show Go p e below _ (T38.setTop (mkF m 88 #[.val (.int fi), .val (.int pv), .val (.long qv), .second, .val (.int av), .val (.int wv), .val (.int fl), .val (.ref b1), .val (.ref bc4), .val (.int (1 : Int32)), .val (.int (0 : Int32)), .val (.int (1 : Int32)), .val .null, .unset, .unset] []))
      refine Go.st (fun _ kt => XS.aload X38.here hx rfl (hb hby at_88) rfl rfl kt) ?_
      show Go p e below _ (T38.setTop (mkF m 90 #[.val (.int fi), .val (.int pv), .val (.long qv), .second, .val (.int av), .val (.int wv), .val (.int fl), .val (.ref b1), .val (.ref bc4), .val (.int (1 : Int32)), .val (.int (0 : Int32)), .val (.int (1 : Int32)), .val .null, .unset, .unset] [(.ref b1)]))
      refine Go.st (fun _ kt => XS.iload X38.here hx rfl (hb hby at_90) rfl kt) ?_
      show Go p e below _ (T38.setTop (mkF m 92 #[.val (.int fi), .val (.int pv), .val (.long qv), .second, .val (.int av), .val (.int wv), .val (.int fl), .val (.ref b1), .val (.ref bc4), .val (.int (1 : Int32)), .val (.int (0 : Int32)), .val (.int (1 : Int32)), .val .null, .unset, .unset] [(.int av), (.ref b1)]))
      refine Go.st (fun _ kt => XS.iload X38.here hx rfl (hb hby at_92) rfl kt) ?_
      show Go p e below _ (T38.setTop (mkF m 94 #[.val (.int fi), .val (.int pv), .val (.long qv), .second, .val (.int av), .val (.int wv), .val (.int fl), .val (.ref b1), .val (.ref bc4), .val (.int (1 : Int32)), .val (.int (0 : Int32)), .val (.int (1 : Int32)), .val .null, .unset, .unset] [(.int wv), (.int av), (.ref b1)]))
      obtain ⟨cq39, kq39, q39a, q39b, q39c⟩ := isOf hZ rfl E_k38
      obtain ⟨_, _, ⟨T39, L39, k39, n39⟩, -, X39, ⟨Lc39, hQ39, l39, y39, z39⟩, st39⟩ := X38.virtualBack hx (y := (⟨"com/example/manyhands/manyhands/crowd/Totals", "addAnswers", "(II)V"⟩ : MethodName)) (z := (⟨"com/example/manyhands/manyhands/crowd/Totals", "addAnswers", "(II)V"⟩ : MethodName)) hown (mvT hZ (hw _ (List.mem_of_getElem? (i := 36) rfl))) (mvT hZ (hw _ (List.mem_of_getElem? (i := 37) rfl))) (notFace_of_selects (args := #[]) (mvT hZ (hw _ (List.mem_of_getElem? (i := 39) rfl)))) (mvT hZ (hw _ (List.mem_of_getElem? (i := 39) rfl))) (mvT hZ (hw _ (List.mem_of_getElem? (i := 38) rfl))) (by decide) (own_backSync (W := 0) (rm7n l Z a0 hw [] b1 av wv (own_c0 pv (own_c0 fi (0 : Int64))) T38.heap n0 Zs38 ⟨E_k38, ⟨_, Ftk38⟩, ⟨_, Fsk38⟩, ⟨_, Fck38⟩, Fnk38, Fhk38⟩ U38q gn_b1) hZ (hw _ (List.mem_of_getElem? (i := 40) rfl)) (hw _ (List.mem_of_getElem? (i := 38) rfl)) (hw _ (List.mem_of_getElem? (i := 2) rfl)) U38q (by decide) (by decide)) q39a q39c (g := (mkF m 94 #[.val (.int fi), .val (.int pv), .val (.long qv), .second, .val (.int av), .val (.int wv), .val (.int fl), .val (.ref b1), .val (.ref bc4), .val (.int (1 : Int32)), .val (.int (0 : Int32)), .val (.int (1 : Int32)), .val .null, .unset, .unset] [(.int wv), (.int av), (.ref b1)])) rfl (by rw [hml]; rfl) (Steps.refl _) (argsL := [(.int av), (.int wv)]) (rest := []) (lenOf own_pd9 rfl) rfl (by show 2 * 0 + _ ≤ _; exact Nat.le_of_eq rfl) (hb hby at_94) (fun _ _ => ⟨rfl, rfl, (by decide : 2 + 0 ≤ _), (by decide : 10 + 0 ≤ _)⟩)
      dsimp only [Pt.U, Pt.locs, Pt.cells, Pt.slots] at X39 l39 y39 z39 st39 hQ39
      subst l39 y39 z39
      obtain ⟨rfl, N39q, K39q, U39q, P39⟩ := hQ39
      have Zs39 : n0 ≤ T39.heap.size := Nat.le_trans Zs38 K39q.1
      have N39 := Fr.app N38 N39q
      obtain ⟨E_k39, ⟨ztk39, Ftk39⟩, ⟨zsk39, Fsk39⟩, ⟨zck39, Fck39⟩, Fnk39, Fhk39⟩ := id P39
      refine Go.tr st39 ?_
      show Go p e below _ (T39.setTop (mkF m 97 #[.val (.int fi), .val (.int pv), .val (.long qv), .second, .val (.int av), .val (.int wv), .val (.int fl), .val (.ref b1), .val (.ref bc4), .val (.int (1 : Int32)), .val (.int (0 : Int32)), .val (.int (1 : Int32)), .val .null, .unset, .unset] []))
      refine Go.st (fun _ kt => XS.aload X39.here hx rfl (hb hby at_97) rfl rfl kt) ?_
      show Go p e below _ (T39.setTop (mkF m 99 #[.val (.int fi), .val (.int pv), .val (.long qv), .second, .val (.int av), .val (.int wv), .val (.int fl), .val (.ref b1), .val (.ref bc4), .val (.int (1 : Int32)), .val (.int (0 : Int32)), .val (.int (1 : Int32)), .val .null, .unset, .unset] [(.ref b1)]))
      refine Go.st (fun _ kt => XS.lloadN X39.here hx rfl (hb hby at_99) rfl kt) ?_
      show Go p e below _ (T39.setTop (mkF m 100 #[.val (.int fi), .val (.int pv), .val (.long qv), .second, .val (.int av), .val (.int wv), .val (.int fl), .val (.ref b1), .val (.ref bc4), .val (.int (1 : Int32)), .val (.int (0 : Int32)), .val (.int (1 : Int32)), .val .null, .unset, .unset] [(.long qv), (.ref b1)]))
      refine Go.st (fun _ kt => XS.lconst X39.here hx rfl (hb hby at_100) kt) ?_
      show Go p e below _ (T39.setTop (mkF m 101 #[.val (.int fi), .val (.int pv), .val (.long qv), .second, .val (.int av), .val (.int wv), .val (.int fl), .val (.ref b1), .val (.ref bc4), .val (.int (1 : Int32)), .val (.int (0 : Int32)), .val (.int (1 : Int32)), .val .null, .unset, .unset] [(.long (0 : Int64)), (.long qv), (.ref b1)]))
      obtain ⟨cq40, kq40, q40a, q40b, q40c⟩ := isOf hZ rfl E_k39
      obtain ⟨_, _, ⟨T40, L40, k40, n40⟩, -, X40, ⟨Lc40, hQ40, l40, y40, z40⟩, st40⟩ := X39.virtualBack hx (y := (⟨"com/example/manyhands/manyhands/crowd/Totals", "addKeptEarlier", "(JJ)V"⟩ : MethodName)) (z := (⟨"com/example/manyhands/manyhands/crowd/Totals", "addKeptEarlier", "(JJ)V"⟩ : MethodName)) hown (mvT hZ (hw _ (List.mem_of_getElem? (i := 47) rfl))) (mvT hZ (hw _ (List.mem_of_getElem? (i := 48) rfl))) (notFace_of_selects (args := #[]) (mvT hZ (hw _ (List.mem_of_getElem? (i := 50) rfl)))) (mvT hZ (hw _ (List.mem_of_getElem? (i := 50) rfl))) (mvT hZ (hw _ (List.mem_of_getElem? (i := 49) rfl))) (by decide) (own_backSync (W := 0) (rm9 l Z a0 hw [] b1 qv (0 : Int64) (own_c1 av.toInt64 (own_c0 pv (own_c0 fi (0 : Int64)))) .null T39.heap n0 Zs39 ⟨E_k39, ⟨_, Ftk39⟩, ⟨_, Fsk39⟩, ⟨_, Fck39⟩, Fnk39, Fhk39⟩ U39q gn_b1) hZ (hw _ (List.mem_of_getElem? (i := 51) rfl)) (hw _ (List.mem_of_getElem? (i := 49) rfl)) (hw _ (List.mem_of_getElem? (i := 2) rfl)) U39q (by decide) (by decide)) q40a q40c (g := (mkF m 101 #[.val (.int fi), .val (.int pv), .val (.long qv), .second, .val (.int av), .val (.int wv), .val (.int fl), .val (.ref b1), .val (.ref bc4), .val (.int (1 : Int32)), .val (.int (0 : Int32)), .val (.int (1 : Int32)), .val .null, .unset, .unset] [(.long (0 : Int64)), (.long qv), (.ref b1)])) rfl (by rw [hml]; rfl) (Steps.refl _) (argsL := [(.long qv), (.long (0 : Int64))]) (rest := []) (lenOf own_pd2 rfl) rfl (by show 2 * 0 + _ ≤ _; exact Nat.le_of_eq rfl) (hb hby at_101) (fun _ _ => ⟨rfl, rfl, (by decide : 2 + 0 ≤ _), (by decide : 10 + 0 ≤ _)⟩)
      dsimp only [Pt.U, Pt.locs, Pt.cells, Pt.slots] at X40 l40 y40 z40 st40 hQ40
      subst l40 y40 z40
      obtain ⟨rfl, N40q, K40q, U40q, P40⟩ := hQ40
      have Zs40 : n0 ≤ T40.heap.size := Nat.le_trans Zs39 K40q.1
      have N40 := Fr.app N39 N40q
      obtain ⟨E_k40, ⟨ztk40, Ftk40⟩, ⟨zsk40, Fsk40⟩, ⟨zck40, Fck40⟩, Fnk40, Fhk40⟩ := id P40
      refine Go.tr st40 ?_
      show Go p e below _ (T40.setTop (mkF m 104 #[.val (.int fi), .val (.int pv), .val (.long qv), .second, .val (.int av), .val (.int wv), .val (.int fl), .val (.ref b1), .val (.ref bc4), .val (.int (1 : Int32)), .val (.int (0 : Int32)), .val (.int (1 : Int32)), .val .null, .unset, .unset] []))
      refine Go.st (fun _ kt => XS.iload X40.here hx rfl (hb hby at_104) rfl kt) ?_
      show Go p e below _ (T40.setTop (mkF m 106 #[.val (.int fi), .val (.int pv), .val (.long qv), .second, .val (.int av), .val (.int wv), .val (.int fl), .val (.ref b1), .val (.ref bc4), .val (.int (1 : Int32)), .val (.int (0 : Int32)), .val (.int (1 : Int32)), .val .null, .unset, .unset] [(.int (0 : Int32))]))
      refine Go.st (fun _ kt => XS.ifYes X40.here hx rfl (pc0 := 106) (pc' := 124) rfl (hb hby at_106) rfl ((if0 _ _).trans (teq (by decide : (0 : Int32) = (0 : Int32))).1) (by decide) (by decide) kt) ?_
      show Go p e below _ (T40.setTop (mkF m 124 #[.val (.int fi), .val (.int pv), .val (.long qv), .second, .val (.int av), .val (.int wv), .val (.int fl), .val (.ref b1), .val (.ref bc4), .val (.int (1 : Int32)), .val (.int (0 : Int32)), .val (.int (1 : Int32)), .val .null, .unset, .unset] []))
      refine Go.st (fun _ kt => XS.iload X40.here hx rfl (hb hby at_124) rfl kt) ?_
      show Go p e below _ (T40.setTop (mkF m 126 #[.val (.int fi), .val (.int pv), .val (.long qv), .second, .val (.int av), .val (.int wv), .val (.int fl), .val (.ref b1), .val (.ref bc4), .val (.int (1 : Int32)), .val (.int (0 : Int32)), .val (.int (1 : Int32)), .val .null, .unset, .unset] [(.int av)]))
      by_cases hc126_41 : av = (0 : Int32)
      · refine Go.st (fun _ kt => XS.ifYes X40.here hx rfl (pc0 := 126) (pc' := 143) rfl (hb hby at_126) rfl ((if0 _ _).trans (teq hc126_41).1) (by decide) (by decide) kt) ?_
        show Go p e below _ (T40.setTop (mkF m 143 #[.val (.int fi), .val (.int pv), .val (.long qv), .second, .val (.int av), .val (.int wv), .val (.int fl), .val (.ref b1), .val (.ref bc4), .val (.int (1 : Int32)), .val (.int (0 : Int32)), .val (.int (1 : Int32)), .val .null, .unset, .unset] []))
        refine Go.st (fun _ kt => XS.iconst X40.here hx rfl (hb hby at_143) kt) ?_
        show Go p e below _ (T40.setTop (mkF m 144 #[.val (.int fi), .val (.int pv), .val (.long qv), .second, .val (.int av), .val (.int wv), .val (.int fl), .val (.ref b1), .val (.ref bc4), .val (.int (1 : Int32)), .val (.int (0 : Int32)), .val (.int (1 : Int32)), .val .null, .unset, .unset] [(.int (0 : Int32))]))
        refine Go.st (fun _ kt => XS.istore X40.here hx rfl (hb hby at_144) rfl (l' := #[.val (.int fi), .val (.int pv), .val (.long qv), .second, .val (.int av), .val (.int wv), .val (.int fl), .val (.ref b1), .val (.ref bc4), .val (.int (1 : Int32)), .val (.int (0 : Int32)), .val (.int (1 : Int32)), .val .null, .val (.int (0 : Int32)), .unset]) rfl kt) ?_
        show Go p e below _ (T40.setTop (mkF m 146 #[.val (.int fi), .val (.int pv), .val (.long qv), .second, .val (.int av), .val (.int wv), .val (.int fl), .val (.ref b1), .val (.ref bc4), .val (.int (1 : Int32)), .val (.int (0 : Int32)), .val (.int (1 : Int32)), .val .null, .val (.int (0 : Int32)), .unset] []))
        refine Go.st (fun _ kt => XS.iloadN X40.here hx rfl (hb hby at_146) rfl kt) ?_
        show Go p e below _ (T40.setTop (mkF m 147 #[.val (.int fi), .val (.int pv), .val (.long qv), .second, .val (.int av), .val (.int wv), .val (.int fl), .val (.ref b1), .val (.ref bc4), .val (.int (1 : Int32)), .val (.int (0 : Int32)), .val (.int (1 : Int32)), .val .null, .val (.int (0 : Int32)), .unset] [(.int pv)]))
        by_cases hc147_42 : pv = (0 : Int32)
        · refine Go.st (fun _ kt => XS.ifNo X40.here hx rfl (hb hby at_147) rfl ((if0 _ _).trans (teq hc147_42).2) kt) ?_
          show Go p e below _ (T40.setTop (mkF m 150 #[.val (.int fi), .val (.int pv), .val (.long qv), .second, .val (.int av), .val (.int wv), .val (.int fl), .val (.ref b1), .val (.ref bc4), .val (.int (1 : Int32)), .val (.int (0 : Int32)), .val (.int (1 : Int32)), .val .null, .val (.int (0 : Int32)), .unset] []))
          refine Go.st (fun _ kt => XS.lloadN X40.here hx rfl (hb hby at_150) rfl kt) ?_
          show Go p e below _ (T40.setTop (mkF m 151 #[.val (.int fi), .val (.int pv), .val (.long qv), .second, .val (.int av), .val (.int wv), .val (.int fl), .val (.ref b1), .val (.ref bc4), .val (.int (1 : Int32)), .val (.int (0 : Int32)), .val (.int (1 : Int32)), .val .null, .val (.int (0 : Int32)), .unset] [(.long qv)]))
          refine Go.st (fun _ kt => XS.lconst X40.here hx rfl (hb hby at_151) kt) ?_
          show Go p e below _ (T40.setTop (mkF m 152 #[.val (.int fi), .val (.int pv), .val (.long qv), .second, .val (.int av), .val (.int wv), .val (.int fl), .val (.ref b1), .val (.ref bc4), .val (.int (1 : Int32)), .val (.int (0 : Int32)), .val (.int (1 : Int32)), .val .null, .val (.int (0 : Int32)), .unset] [(.long (0 : Int64)), (.long qv)]))
          refine Go.st (fun _ kt => XS.lcmp X40.here hx rfl (hb hby at_152) rfl kt) ?_
          show Go p e below _ (T40.setTop (mkF m 153 #[.val (.int fi), .val (.int pv), .val (.long qv), .second, .val (.int av), .val (.int wv), .val (.int fl), .val (.ref b1), .val (.ref bc4), .val (.int (1 : Int32)), .val (.int (0 : Int32)), .val (.int (1 : Int32)), .val .null, .val (.int (0 : Int32)), .unset] [(.int (lcmpW qv (0 : Int64)))]))
          by_cases hc153_43 : (lcmpW qv (0 : Int64)) = (0 : Int32)
          · refine Go.st (fun _ kt => XS.ifNo X40.here hx rfl (hb hby at_153) rfl ((if0 _ _).trans (teq hc153_43).2) kt) ?_
            show Go p e below _ (T40.setTop (mkF m 156 #[.val (.int fi), .val (.int pv), .val (.long qv), .second, .val (.int av), .val (.int wv), .val (.int fl), .val (.ref b1), .val (.ref bc4), .val (.int (1 : Int32)), .val (.int (0 : Int32)), .val (.int (1 : Int32)), .val .null, .val (.int (0 : Int32)), .unset] []))
            refine Go.st (fun _ kt => XS.iload X40.here hx rfl (hb hby at_156) rfl kt) ?_
            show Go p e below _ (T40.setTop (mkF m 158 #[.val (.int fi), .val (.int pv), .val (.long qv), .second, .val (.int av), .val (.int wv), .val (.int fl), .val (.ref b1), .val (.ref bc4), .val (.int (1 : Int32)), .val (.int (0 : Int32)), .val (.int (1 : Int32)), .val .null, .val (.int (0 : Int32)), .unset] [(.int (0 : Int32))]))
            refine Go.st (fun _ kt => XS.ifYes X40.here hx rfl (pc0 := 158) (pc' := 165) rfl (hb hby at_158) rfl ((if0 _ _).trans (teq (by decide : (0 : Int32) = (0 : Int32))).1) (by decide) (by decide) kt) ?_
            show Go p e below _ (T40.setTop (mkF m 165 #[.val (.int fi), .val (.int pv), .val (.long qv), .second, .val (.int av), .val (.int wv), .val (.int fl), .val (.ref b1), .val (.ref bc4), .val (.int (1 : Int32)), .val (.int (0 : Int32)), .val (.int (1 : Int32)), .val .null, .val (.int (0 : Int32)), .unset] []))
            refine Go.st (fun _ kt => XS.iconst X40.here hx rfl (hb hby at_165) kt) ?_
            show Go p e below _ (T40.setTop (mkF m 166 #[.val (.int fi), .val (.int pv), .val (.long qv), .second, .val (.int av), .val (.int wv), .val (.int fl), .val (.ref b1), .val (.ref bc4), .val (.int (1 : Int32)), .val (.int (0 : Int32)), .val (.int (1 : Int32)), .val .null, .val (.int (0 : Int32)), .unset] [(.int (0 : Int32))]))
            refine Go.st (fun _ kt => XS.istore X40.here hx rfl (hb hby at_166) rfl (l' := #[.val (.int fi), .val (.int pv), .val (.long qv), .second, .val (.int av), .val (.int wv), .val (.int fl), .val (.ref b1), .val (.ref bc4), .val (.int (1 : Int32)), .val (.int (0 : Int32)), .val (.int (1 : Int32)), .val .null, .val (.int (0 : Int32)), .val (.int (0 : Int32))]) rfl kt) ?_
            show Go p e below _ (T40.setTop (mkF m 168 #[.val (.int fi), .val (.int pv), .val (.long qv), .second, .val (.int av), .val (.int wv), .val (.int fl), .val (.ref b1), .val (.ref bc4), .val (.int (1 : Int32)), .val (.int (0 : Int32)), .val (.int (1 : Int32)), .val .null, .val (.int (0 : Int32)), .val (.int (0 : Int32))] []))
            refine Go.st (fun _ kt => XS.iload X40.here hx rfl (hb hby at_168) rfl kt) ?_
            show Go p e below _ (T40.setTop (mkF m 170 #[.val (.int fi), .val (.int pv), .val (.long qv), .second, .val (.int av), .val (.int wv), .val (.int fl), .val (.ref b1), .val (.ref bc4), .val (.int (1 : Int32)), .val (.int (0 : Int32)), .val (.int (1 : Int32)), .val .null, .val (.int (0 : Int32)), .val (.int (0 : Int32))] [(.int (1 : Int32))]))
            refine Go.st (fun _ kt => XS.ifNo X40.here hx rfl (hb hby at_170) rfl ((if0 _ _).trans (feq (by decide : ¬ ((1 : Int32) = (0 : Int32)))).1) kt) ?_
            show Go p e below _ (T40.setTop (mkF m 173 #[.val (.int fi), .val (.int pv), .val (.long qv), .second, .val (.int av), .val (.int wv), .val (.int fl), .val (.ref b1), .val (.ref bc4), .val (.int (1 : Int32)), .val (.int (0 : Int32)), .val (.int (1 : Int32)), .val .null, .val (.int (0 : Int32)), .val (.int (0 : Int32))] []))
            refine Go.st (fun _ kt => XS.aload X40.here hx rfl (hb hby at_173) rfl rfl kt) ?_
            show Go p e below _ (T40.setTop (mkF m 175 #[.val (.int fi), .val (.int pv), .val (.long qv), .second, .val (.int av), .val (.int wv), .val (.int fl), .val (.ref b1), .val (.ref bc4), .val (.int (1 : Int32)), .val (.int (0 : Int32)), .val (.int (1 : Int32)), .val .null, .val (.int (0 : Int32)), .val (.int (0 : Int32))] [(.ref b1)]))
            refine Go.st (fun _ kt => XS.aload X40.here hx rfl (hb hby at_175) rfl rfl kt) ?_
            show Go p e below _ (T40.setTop (mkF m 177 #[.val (.int fi), .val (.int pv), .val (.long qv), .second, .val (.int av), .val (.int wv), .val (.int fl), .val (.ref b1), .val (.ref bc4), .val (.int (1 : Int32)), .val (.int (0 : Int32)), .val (.int (1 : Int32)), .val .null, .val (.int (0 : Int32)), .val (.int (0 : Int32))] [(.ref bc4), (.ref b1)]))
            have f44 := (((Fx4.keep K38q (ninS (Nat.ne_of_gt lt_b1_bc4) nin0)).keep K39q (ninS (Nat.ne_of_gt lt_b1_bc4) nin0)).keep K40q (ninS (Nat.ne_of_gt lt_b1_bc4) nin0))
            obtain ⟨cq45, kq45, q45a, q45b, q45c⟩ := isOf hZ rfl E_k40
            obtain ⟨_, _, ⟨T45, L45, k45, n45⟩, -, X45, ⟨Lc45, hQ45, l45, y45, z45⟩, st45⟩ := X40.virtualBack hx (y := (⟨"com/example/manyhands/manyhands/crowd/Totals", "countedSince", "(Lcom/example/manyhands/manyhands/crowd/Totals;)Z"⟩ : MethodName)) (z := (⟨"com/example/manyhands/manyhands/crowd/Totals", "countedSince", "(Lcom/example/manyhands/manyhands/crowd/Totals;)Z"⟩ : MethodName)) hown (mvT hZ (hw _ (List.mem_of_getElem? (i := 31) rfl))) (mvT hZ (hw _ (List.mem_of_getElem? (i := 32) rfl))) (notFace_of_selects (args := #[]) (mvT hZ (hw _ (List.mem_of_getElem? (i := 34) rfl)))) (mvT hZ (hw _ (List.mem_of_getElem? (i := 34) rfl))) (mvT hZ (hw _ (List.mem_of_getElem? (i := 33) rfl))) (by decide) (backOf (W := 0) (rm6e l Z a0 hw [] b1 bc4 (own_c1 qv (own_c1 av.toInt64 (own_c0 pv (own_c0 fi (0 : Int64))))) (own_c0 fi (0 : Int64)) T40.heap n0 Zs40 Fnk40 f44 (own_eq0 _ hc147_42 ((lw_eq _ _).mp hc153_43) (own_tz.mpr hc126_41))) hZ (hw _ (List.mem_of_getElem? (i := 35) rfl)) (hw _ (List.mem_of_getElem? (i := 2) rfl)) (by decide) (by decide)) q45a q45c (g := (mkF m 177 #[.val (.int fi), .val (.int pv), .val (.long qv), .second, .val (.int av), .val (.int wv), .val (.int fl), .val (.ref b1), .val (.ref bc4), .val (.int (1 : Int32)), .val (.int (0 : Int32)), .val (.int (1 : Int32)), .val .null, .val (.int (0 : Int32)), .val (.int (0 : Int32))] [(.ref bc4), (.ref b1)])) rfl (by rw [hml]; rfl) (Steps.refl _) (argsL := [(.ref bc4)]) (rest := []) (lenOf own_pd8 rfl) rfl (by show 2 * 0 + _ ≤ _; exact Nat.le_of_eq rfl) (hb hby at_177) (fun _ _ => ⟨rfl, rfl, (by decide : 2 + 0 ≤ _), (by decide : 10 + 0 ≤ _)⟩)
            dsimp only [Pt.U, Pt.locs, Pt.cells, Pt.slots] at X45 l45 y45 z45 st45 hQ45
            subst l45 y45 z45
            obtain ⟨rfl, N45q, e45⟩ := hQ45
            have N45 := Fr.app N40 N45q
            refine Go.tr st45 ?_
            show Go p e below _ (T45.setTop (mkF m 180 #[.val (.int fi), .val (.int pv), .val (.long qv), .second, .val (.int av), .val (.int wv), .val (.int fl), .val (.ref b1), .val (.ref bc4), .val (.int (1 : Int32)), .val (.int (0 : Int32)), .val (.int (1 : Int32)), .val .null, .val (.int (0 : Int32)), .val (.int (0 : Int32))] [(.int (0 : Int32))]))
            refine Go.st (fun _ kt => XS.iload X45.here hx rfl (hb hby at_180) rfl kt) ?_
            show Go p e below _ (T45.setTop (mkF m 182 #[.val (.int fi), .val (.int pv), .val (.long qv), .second, .val (.int av), .val (.int wv), .val (.int fl), .val (.ref b1), .val (.ref bc4), .val (.int (1 : Int32)), .val (.int (0 : Int32)), .val (.int (1 : Int32)), .val .null, .val (.int (0 : Int32)), .val (.int (0 : Int32))] [(.int (0 : Int32)), (.int (0 : Int32))]))
            refine Go.st (fun _ kt => XS.icmpNo X45.here hx rfl (hb hby at_182) rfl (teq (by decide : (0 : Int32) = (0 : Int32))).2 kt) ?_
            show Go p e below _ (T45.setTop (mkF m 185 #[.val (.int fi), .val (.int pv), .val (.long qv), .second, .val (.int av), .val (.int wv), .val (.int fl), .val (.ref b1), .val (.ref bc4), .val (.int (1 : Int32)), .val (.int (0 : Int32)), .val (.int (1 : Int32)), .val .null, .val (.int (0 : Int32)), .val (.int (0 : Int32))] []))
            refine Go.st (fun _ kt => XS.iconst X45.here hx rfl (hb hby at_185) kt) ?_
            show Go p e below _ (T45.setTop (mkF m 186 #[.val (.int fi), .val (.int pv), .val (.long qv), .second, .val (.int av), .val (.int wv), .val (.int fl), .val (.ref b1), .val (.ref bc4), .val (.int (1 : Int32)), .val (.int (0 : Int32)), .val (.int (1 : Int32)), .val .null, .val (.int (0 : Int32)), .val (.int (0 : Int32))] [(.int (1 : Int32))]))
            refine Go.st (fun _ kt => XS.goto X45.here hx rfl (pc0 := 186) (pc' := 190) rfl (hb hby at_186) (by decide) (by decide) kt) ?_
            show Go p e below _ (T45.setTop (mkF m 190 #[.val (.int fi), .val (.int pv), .val (.long qv), .second, .val (.int av), .val (.int wv), .val (.int fl), .val (.ref b1), .val (.ref bc4), .val (.int (1 : Int32)), .val (.int (0 : Int32)), .val (.int (1 : Int32)), .val .null, .val (.int (0 : Int32)), .val (.int (0 : Int32))] [(.int (1 : Int32))]))
            refine Go.retN X45 hx (t := .boolean) Bd.returns (by simp) (BodyLoose.notSynchronized Bd) (hb hby at_190) (Q := (Q_rm0 Z fi pv qv av wv fl h0 n0)) (by decide) (by decide) ?_
            show (Q_rm0 Z fi pv qv av wv fl h0 n0) _ T45.heap _
            rw [e45]
            exact ⟨rfl, N45⟩
          · refine Go.st (fun _ kt => XS.ifYes X40.here hx rfl (pc0 := 153) (pc' := 161) rfl (hb hby at_153) rfl ((if0 _ _).trans (feq hc153_43).2) (by decide) (by decide) kt) ?_
            show Go p e below _ (T40.setTop (mkF m 161 #[.val (.int fi), .val (.int pv), .val (.long qv), .second, .val (.int av), .val (.int wv), .val (.int fl), .val (.ref b1), .val (.ref bc4), .val (.int (1 : Int32)), .val (.int (0 : Int32)), .val (.int (1 : Int32)), .val .null, .val (.int (0 : Int32)), .unset] []))
            refine Go.st (fun _ kt => XS.iconst X40.here hx rfl (hb hby at_161) kt) ?_
            show Go p e below _ (T40.setTop (mkF m 162 #[.val (.int fi), .val (.int pv), .val (.long qv), .second, .val (.int av), .val (.int wv), .val (.int fl), .val (.ref b1), .val (.ref bc4), .val (.int (1 : Int32)), .val (.int (0 : Int32)), .val (.int (1 : Int32)), .val .null, .val (.int (0 : Int32)), .unset] [(.int (1 : Int32))]))
            refine Go.st (fun _ kt => XS.goto X40.here hx rfl (pc0 := 162) (pc' := 166) rfl (hb hby at_162) (by decide) (by decide) kt) ?_
            show Go p e below _ (T40.setTop (mkF m 166 #[.val (.int fi), .val (.int pv), .val (.long qv), .second, .val (.int av), .val (.int wv), .val (.int fl), .val (.ref b1), .val (.ref bc4), .val (.int (1 : Int32)), .val (.int (0 : Int32)), .val (.int (1 : Int32)), .val .null, .val (.int (0 : Int32)), .unset] [(.int (1 : Int32))]))
            refine Go.st (fun _ kt => XS.istore X40.here hx rfl (hb hby at_166) rfl (l' := #[.val (.int fi), .val (.int pv), .val (.long qv), .second, .val (.int av), .val (.int wv), .val (.int fl), .val (.ref b1), .val (.ref bc4), .val (.int (1 : Int32)), .val (.int (0 : Int32)), .val (.int (1 : Int32)), .val .null, .val (.int (0 : Int32)), .val (.int (1 : Int32))]) rfl kt) ?_
            show Go p e below _ (T40.setTop (mkF m 168 #[.val (.int fi), .val (.int pv), .val (.long qv), .second, .val (.int av), .val (.int wv), .val (.int fl), .val (.ref b1), .val (.ref bc4), .val (.int (1 : Int32)), .val (.int (0 : Int32)), .val (.int (1 : Int32)), .val .null, .val (.int (0 : Int32)), .val (.int (1 : Int32))] []))
            refine Go.st (fun _ kt => XS.iload X40.here hx rfl (hb hby at_168) rfl kt) ?_
            show Go p e below _ (T40.setTop (mkF m 170 #[.val (.int fi), .val (.int pv), .val (.long qv), .second, .val (.int av), .val (.int wv), .val (.int fl), .val (.ref b1), .val (.ref bc4), .val (.int (1 : Int32)), .val (.int (0 : Int32)), .val (.int (1 : Int32)), .val .null, .val (.int (0 : Int32)), .val (.int (1 : Int32))] [(.int (1 : Int32))]))
            refine Go.st (fun _ kt => XS.ifNo X40.here hx rfl (hb hby at_170) rfl ((if0 _ _).trans (feq (by decide : ¬ ((1 : Int32) = (0 : Int32)))).1) kt) ?_
            show Go p e below _ (T40.setTop (mkF m 173 #[.val (.int fi), .val (.int pv), .val (.long qv), .second, .val (.int av), .val (.int wv), .val (.int fl), .val (.ref b1), .val (.ref bc4), .val (.int (1 : Int32)), .val (.int (0 : Int32)), .val (.int (1 : Int32)), .val .null, .val (.int (0 : Int32)), .val (.int (1 : Int32))] []))
            refine Go.st (fun _ kt => XS.aload X40.here hx rfl (hb hby at_173) rfl rfl kt) ?_
            show Go p e below _ (T40.setTop (mkF m 175 #[.val (.int fi), .val (.int pv), .val (.long qv), .second, .val (.int av), .val (.int wv), .val (.int fl), .val (.ref b1), .val (.ref bc4), .val (.int (1 : Int32)), .val (.int (0 : Int32)), .val (.int (1 : Int32)), .val .null, .val (.int (0 : Int32)), .val (.int (1 : Int32))] [(.ref b1)]))
            refine Go.st (fun _ kt => XS.aload X40.here hx rfl (hb hby at_175) rfl rfl kt) ?_
            show Go p e below _ (T40.setTop (mkF m 177 #[.val (.int fi), .val (.int pv), .val (.long qv), .second, .val (.int av), .val (.int wv), .val (.int fl), .val (.ref b1), .val (.ref bc4), .val (.int (1 : Int32)), .val (.int (0 : Int32)), .val (.int (1 : Int32)), .val .null, .val (.int (0 : Int32)), .val (.int (1 : Int32))] [(.ref bc4), (.ref b1)]))
            have f46 := (((Fx4.keep K38q (ninS (Nat.ne_of_gt lt_b1_bc4) nin0)).keep K39q (ninS (Nat.ne_of_gt lt_b1_bc4) nin0)).keep K40q (ninS (Nat.ne_of_gt lt_b1_bc4) nin0))
            obtain ⟨cq47, kq47, q47a, q47b, q47c⟩ := isOf hZ rfl E_k40
            obtain ⟨_, _, ⟨T47, L47, k47, n47⟩, -, X47, ⟨Lc47, hQ47, l47, y47, z47⟩, st47⟩ := X40.virtualBack hx (y := (⟨"com/example/manyhands/manyhands/crowd/Totals", "countedSince", "(Lcom/example/manyhands/manyhands/crowd/Totals;)Z"⟩ : MethodName)) (z := (⟨"com/example/manyhands/manyhands/crowd/Totals", "countedSince", "(Lcom/example/manyhands/manyhands/crowd/Totals;)Z"⟩ : MethodName)) hown (mvT hZ (hw _ (List.mem_of_getElem? (i := 31) rfl))) (mvT hZ (hw _ (List.mem_of_getElem? (i := 32) rfl))) (notFace_of_selects (args := #[]) (mvT hZ (hw _ (List.mem_of_getElem? (i := 34) rfl)))) (mvT hZ (hw _ (List.mem_of_getElem? (i := 34) rfl))) (mvT hZ (hw _ (List.mem_of_getElem? (i := 33) rfl))) (by decide) (backOf (W := 0) (rm6n l Z a0 hw [] b1 bc4 (own_c1 qv (own_c1 av.toInt64 (own_c0 pv (own_c0 fi (0 : Int64))))) (own_c0 fi (0 : Int64)) T40.heap n0 Zs40 Fnk40 f46 (own_ne0 _ (Or.inr (Or.inl (fun q => hc153_43 ((lw_eq _ _).mpr q)))))) hZ (hw _ (List.mem_of_getElem? (i := 35) rfl)) (hw _ (List.mem_of_getElem? (i := 2) rfl)) (by decide) (by decide)) q47a q47c (g := (mkF m 177 #[.val (.int fi), .val (.int pv), .val (.long qv), .second, .val (.int av), .val (.int wv), .val (.int fl), .val (.ref b1), .val (.ref bc4), .val (.int (1 : Int32)), .val (.int (0 : Int32)), .val (.int (1 : Int32)), .val .null, .val (.int (0 : Int32)), .val (.int (1 : Int32))] [(.ref bc4), (.ref b1)])) rfl (by rw [hml]; rfl) (Steps.refl _) (argsL := [(.ref bc4)]) (rest := []) (lenOf own_pd8 rfl) rfl (by show 2 * 0 + _ ≤ _; exact Nat.le_of_eq rfl) (hb hby at_177) (fun _ _ => ⟨rfl, rfl, (by decide : 2 + 0 ≤ _), (by decide : 10 + 0 ≤ _)⟩)
            dsimp only [Pt.U, Pt.locs, Pt.cells, Pt.slots] at X47 l47 y47 z47 st47 hQ47
            subst l47 y47 z47
            obtain ⟨rfl, N47q, e47⟩ := hQ47
            have N47 := Fr.app N40 N47q
            refine Go.tr st47 ?_
            show Go p e below _ (T47.setTop (mkF m 180 #[.val (.int fi), .val (.int pv), .val (.long qv), .second, .val (.int av), .val (.int wv), .val (.int fl), .val (.ref b1), .val (.ref bc4), .val (.int (1 : Int32)), .val (.int (0 : Int32)), .val (.int (1 : Int32)), .val .null, .val (.int (0 : Int32)), .val (.int (1 : Int32))] [(.int (1 : Int32))]))
            refine Go.st (fun _ kt => XS.iload X47.here hx rfl (hb hby at_180) rfl kt) ?_
            show Go p e below _ (T47.setTop (mkF m 182 #[.val (.int fi), .val (.int pv), .val (.long qv), .second, .val (.int av), .val (.int wv), .val (.int fl), .val (.ref b1), .val (.ref bc4), .val (.int (1 : Int32)), .val (.int (0 : Int32)), .val (.int (1 : Int32)), .val .null, .val (.int (0 : Int32)), .val (.int (1 : Int32))] [(.int (1 : Int32)), (.int (1 : Int32))]))
            refine Go.st (fun _ kt => XS.icmpNo X47.here hx rfl (hb hby at_182) rfl (teq (by decide : (1 : Int32) = (1 : Int32))).2 kt) ?_
            show Go p e below _ (T47.setTop (mkF m 185 #[.val (.int fi), .val (.int pv), .val (.long qv), .second, .val (.int av), .val (.int wv), .val (.int fl), .val (.ref b1), .val (.ref bc4), .val (.int (1 : Int32)), .val (.int (0 : Int32)), .val (.int (1 : Int32)), .val .null, .val (.int (0 : Int32)), .val (.int (1 : Int32))] []))
            refine Go.st (fun _ kt => XS.iconst X47.here hx rfl (hb hby at_185) kt) ?_
            show Go p e below _ (T47.setTop (mkF m 186 #[.val (.int fi), .val (.int pv), .val (.long qv), .second, .val (.int av), .val (.int wv), .val (.int fl), .val (.ref b1), .val (.ref bc4), .val (.int (1 : Int32)), .val (.int (0 : Int32)), .val (.int (1 : Int32)), .val .null, .val (.int (0 : Int32)), .val (.int (1 : Int32))] [(.int (1 : Int32))]))
            refine Go.st (fun _ kt => XS.goto X47.here hx rfl (pc0 := 186) (pc' := 190) rfl (hb hby at_186) (by decide) (by decide) kt) ?_
            show Go p e below _ (T47.setTop (mkF m 190 #[.val (.int fi), .val (.int pv), .val (.long qv), .second, .val (.int av), .val (.int wv), .val (.int fl), .val (.ref b1), .val (.ref bc4), .val (.int (1 : Int32)), .val (.int (0 : Int32)), .val (.int (1 : Int32)), .val .null, .val (.int (0 : Int32)), .val (.int (1 : Int32))] [(.int (1 : Int32))]))
            refine Go.retN X47 hx (t := .boolean) Bd.returns (by simp) (BodyLoose.notSynchronized Bd) (hb hby at_190) (Q := (Q_rm0 Z fi pv qv av wv fl h0 n0)) (by decide) (by decide) ?_
            show (Q_rm0 Z fi pv qv av wv fl h0 n0) _ T47.heap _
            rw [e47]
            exact ⟨rfl, N47⟩
        · refine Go.st (fun _ kt => XS.ifYes X40.here hx rfl (pc0 := 147) (pc' := 161) rfl (hb hby at_147) rfl ((if0 _ _).trans (feq hc147_42).2) (by decide) (by decide) kt) ?_
          show Go p e below _ (T40.setTop (mkF m 161 #[.val (.int fi), .val (.int pv), .val (.long qv), .second, .val (.int av), .val (.int wv), .val (.int fl), .val (.ref b1), .val (.ref bc4), .val (.int (1 : Int32)), .val (.int (0 : Int32)), .val (.int (1 : Int32)), .val .null, .val (.int (0 : Int32)), .unset] []))
          refine Go.st (fun _ kt => XS.iconst X40.here hx rfl (hb hby at_161) kt) ?_
          show Go p e below _ (T40.setTop (mkF m 162 #[.val (.int fi), .val (.int pv), .val (.long qv), .second, .val (.int av), .val (.int wv), .val (.int fl), .val (.ref b1), .val (.ref bc4), .val (.int (1 : Int32)), .val (.int (0 : Int32)), .val (.int (1 : Int32)), .val .null, .val (.int (0 : Int32)), .unset] [(.int (1 : Int32))]))
          refine Go.st (fun _ kt => XS.goto X40.here hx rfl (pc0 := 162) (pc' := 166) rfl (hb hby at_162) (by decide) (by decide) kt) ?_
          show Go p e below _ (T40.setTop (mkF m 166 #[.val (.int fi), .val (.int pv), .val (.long qv), .second, .val (.int av), .val (.int wv), .val (.int fl), .val (.ref b1), .val (.ref bc4), .val (.int (1 : Int32)), .val (.int (0 : Int32)), .val (.int (1 : Int32)), .val .null, .val (.int (0 : Int32)), .unset] [(.int (1 : Int32))]))
          refine Go.st (fun _ kt => XS.istore X40.here hx rfl (hb hby at_166) rfl (l' := #[.val (.int fi), .val (.int pv), .val (.long qv), .second, .val (.int av), .val (.int wv), .val (.int fl), .val (.ref b1), .val (.ref bc4), .val (.int (1 : Int32)), .val (.int (0 : Int32)), .val (.int (1 : Int32)), .val .null, .val (.int (0 : Int32)), .val (.int (1 : Int32))]) rfl kt) ?_
          show Go p e below _ (T40.setTop (mkF m 168 #[.val (.int fi), .val (.int pv), .val (.long qv), .second, .val (.int av), .val (.int wv), .val (.int fl), .val (.ref b1), .val (.ref bc4), .val (.int (1 : Int32)), .val (.int (0 : Int32)), .val (.int (1 : Int32)), .val .null, .val (.int (0 : Int32)), .val (.int (1 : Int32))] []))
          refine Go.st (fun _ kt => XS.iload X40.here hx rfl (hb hby at_168) rfl kt) ?_
          show Go p e below _ (T40.setTop (mkF m 170 #[.val (.int fi), .val (.int pv), .val (.long qv), .second, .val (.int av), .val (.int wv), .val (.int fl), .val (.ref b1), .val (.ref bc4), .val (.int (1 : Int32)), .val (.int (0 : Int32)), .val (.int (1 : Int32)), .val .null, .val (.int (0 : Int32)), .val (.int (1 : Int32))] [(.int (1 : Int32))]))
          refine Go.st (fun _ kt => XS.ifNo X40.here hx rfl (hb hby at_170) rfl ((if0 _ _).trans (feq (by decide : ¬ ((1 : Int32) = (0 : Int32)))).1) kt) ?_
          show Go p e below _ (T40.setTop (mkF m 173 #[.val (.int fi), .val (.int pv), .val (.long qv), .second, .val (.int av), .val (.int wv), .val (.int fl), .val (.ref b1), .val (.ref bc4), .val (.int (1 : Int32)), .val (.int (0 : Int32)), .val (.int (1 : Int32)), .val .null, .val (.int (0 : Int32)), .val (.int (1 : Int32))] []))
          refine Go.st (fun _ kt => XS.aload X40.here hx rfl (hb hby at_173) rfl rfl kt) ?_
          show Go p e below _ (T40.setTop (mkF m 175 #[.val (.int fi), .val (.int pv), .val (.long qv), .second, .val (.int av), .val (.int wv), .val (.int fl), .val (.ref b1), .val (.ref bc4), .val (.int (1 : Int32)), .val (.int (0 : Int32)), .val (.int (1 : Int32)), .val .null, .val (.int (0 : Int32)), .val (.int (1 : Int32))] [(.ref b1)]))
          refine Go.st (fun _ kt => XS.aload X40.here hx rfl (hb hby at_175) rfl rfl kt) ?_
          show Go p e below _ (T40.setTop (mkF m 177 #[.val (.int fi), .val (.int pv), .val (.long qv), .second, .val (.int av), .val (.int wv), .val (.int fl), .val (.ref b1), .val (.ref bc4), .val (.int (1 : Int32)), .val (.int (0 : Int32)), .val (.int (1 : Int32)), .val .null, .val (.int (0 : Int32)), .val (.int (1 : Int32))] [(.ref bc4), (.ref b1)]))
          have f48 := (((Fx4.keep K38q (ninS (Nat.ne_of_gt lt_b1_bc4) nin0)).keep K39q (ninS (Nat.ne_of_gt lt_b1_bc4) nin0)).keep K40q (ninS (Nat.ne_of_gt lt_b1_bc4) nin0))
          obtain ⟨cq49, kq49, q49a, q49b, q49c⟩ := isOf hZ rfl E_k40
          obtain ⟨_, _, ⟨T49, L49, k49, n49⟩, -, X49, ⟨Lc49, hQ49, l49, y49, z49⟩, st49⟩ := X40.virtualBack hx (y := (⟨"com/example/manyhands/manyhands/crowd/Totals", "countedSince", "(Lcom/example/manyhands/manyhands/crowd/Totals;)Z"⟩ : MethodName)) (z := (⟨"com/example/manyhands/manyhands/crowd/Totals", "countedSince", "(Lcom/example/manyhands/manyhands/crowd/Totals;)Z"⟩ : MethodName)) hown (mvT hZ (hw _ (List.mem_of_getElem? (i := 31) rfl))) (mvT hZ (hw _ (List.mem_of_getElem? (i := 32) rfl))) (notFace_of_selects (args := #[]) (mvT hZ (hw _ (List.mem_of_getElem? (i := 34) rfl)))) (mvT hZ (hw _ (List.mem_of_getElem? (i := 34) rfl))) (mvT hZ (hw _ (List.mem_of_getElem? (i := 33) rfl))) (by decide) (backOf (W := 0) (rm6n l Z a0 hw [] b1 bc4 (own_c1 qv (own_c1 av.toInt64 (own_c0 pv (own_c0 fi (0 : Int64))))) (own_c0 fi (0 : Int64)) T40.heap n0 Zs40 Fnk40 f48 (own_ne0 _ (Or.inl hc147_42))) hZ (hw _ (List.mem_of_getElem? (i := 35) rfl)) (hw _ (List.mem_of_getElem? (i := 2) rfl)) (by decide) (by decide)) q49a q49c (g := (mkF m 177 #[.val (.int fi), .val (.int pv), .val (.long qv), .second, .val (.int av), .val (.int wv), .val (.int fl), .val (.ref b1), .val (.ref bc4), .val (.int (1 : Int32)), .val (.int (0 : Int32)), .val (.int (1 : Int32)), .val .null, .val (.int (0 : Int32)), .val (.int (1 : Int32))] [(.ref bc4), (.ref b1)])) rfl (by rw [hml]; rfl) (Steps.refl _) (argsL := [(.ref bc4)]) (rest := []) (lenOf own_pd8 rfl) rfl (by show 2 * 0 + _ ≤ _; exact Nat.le_of_eq rfl) (hb hby at_177) (fun _ _ => ⟨rfl, rfl, (by decide : 2 + 0 ≤ _), (by decide : 10 + 0 ≤ _)⟩)
          dsimp only [Pt.U, Pt.locs, Pt.cells, Pt.slots] at X49 l49 y49 z49 st49 hQ49
          subst l49 y49 z49
          obtain ⟨rfl, N49q, e49⟩ := hQ49
          have N49 := Fr.app N40 N49q
          refine Go.tr st49 ?_
          show Go p e below _ (T49.setTop (mkF m 180 #[.val (.int fi), .val (.int pv), .val (.long qv), .second, .val (.int av), .val (.int wv), .val (.int fl), .val (.ref b1), .val (.ref bc4), .val (.int (1 : Int32)), .val (.int (0 : Int32)), .val (.int (1 : Int32)), .val .null, .val (.int (0 : Int32)), .val (.int (1 : Int32))] [(.int (1 : Int32))]))
          refine Go.st (fun _ kt => XS.iload X49.here hx rfl (hb hby at_180) rfl kt) ?_
          show Go p e below _ (T49.setTop (mkF m 182 #[.val (.int fi), .val (.int pv), .val (.long qv), .second, .val (.int av), .val (.int wv), .val (.int fl), .val (.ref b1), .val (.ref bc4), .val (.int (1 : Int32)), .val (.int (0 : Int32)), .val (.int (1 : Int32)), .val .null, .val (.int (0 : Int32)), .val (.int (1 : Int32))] [(.int (1 : Int32)), (.int (1 : Int32))]))
          refine Go.st (fun _ kt => XS.icmpNo X49.here hx rfl (hb hby at_182) rfl (teq (by decide : (1 : Int32) = (1 : Int32))).2 kt) ?_
          show Go p e below _ (T49.setTop (mkF m 185 #[.val (.int fi), .val (.int pv), .val (.long qv), .second, .val (.int av), .val (.int wv), .val (.int fl), .val (.ref b1), .val (.ref bc4), .val (.int (1 : Int32)), .val (.int (0 : Int32)), .val (.int (1 : Int32)), .val .null, .val (.int (0 : Int32)), .val (.int (1 : Int32))] []))
          refine Go.st (fun _ kt => XS.iconst X49.here hx rfl (hb hby at_185) kt) ?_
          show Go p e below _ (T49.setTop (mkF m 186 #[.val (.int fi), .val (.int pv), .val (.long qv), .second, .val (.int av), .val (.int wv), .val (.int fl), .val (.ref b1), .val (.ref bc4), .val (.int (1 : Int32)), .val (.int (0 : Int32)), .val (.int (1 : Int32)), .val .null, .val (.int (0 : Int32)), .val (.int (1 : Int32))] [(.int (1 : Int32))]))
          refine Go.st (fun _ kt => XS.goto X49.here hx rfl (pc0 := 186) (pc' := 190) rfl (hb hby at_186) (by decide) (by decide) kt) ?_
          show Go p e below _ (T49.setTop (mkF m 190 #[.val (.int fi), .val (.int pv), .val (.long qv), .second, .val (.int av), .val (.int wv), .val (.int fl), .val (.ref b1), .val (.ref bc4), .val (.int (1 : Int32)), .val (.int (0 : Int32)), .val (.int (1 : Int32)), .val .null, .val (.int (0 : Int32)), .val (.int (1 : Int32))] [(.int (1 : Int32))]))
          refine Go.retN X49 hx (t := .boolean) Bd.returns (by simp) (BodyLoose.notSynchronized Bd) (hb hby at_190) (Q := (Q_rm0 Z fi pv qv av wv fl h0 n0)) (by decide) (by decide) ?_
          show (Q_rm0 Z fi pv qv av wv fl h0 n0) _ T49.heap _
          rw [e49]
          exact ⟨rfl, N49⟩
      · refine Go.st (fun _ kt => XS.ifNo X40.here hx rfl (hb hby at_126) rfl ((if0 _ _).trans (feq hc126_41).1) kt) ?_
        show Go p e below _ (T40.setTop (mkF m 129 #[.val (.int fi), .val (.int pv), .val (.long qv), .second, .val (.int av), .val (.int wv), .val (.int fl), .val (.ref b1), .val (.ref bc4), .val (.int (1 : Int32)), .val (.int (0 : Int32)), .val (.int (1 : Int32)), .val .null, .unset, .unset] []))
        refine Go.st (fun _ kt => XS.iload X40.here hx rfl (hb hby at_129) rfl kt) ?_
        show Go p e below _ (T40.setTop (mkF m 131 #[.val (.int fi), .val (.int pv), .val (.long qv), .second, .val (.int av), .val (.int wv), .val (.int fl), .val (.ref b1), .val (.ref bc4), .val (.int (1 : Int32)), .val (.int (0 : Int32)), .val (.int (1 : Int32)), .val .null, .unset, .unset] [(.int (0 : Int32))]))
        refine Go.st (fun _ kt => XS.ifYes X40.here hx rfl (pc0 := 131) (pc' := 139) rfl (hb hby at_131) rfl ((if0 _ _).trans (teq (by decide : (0 : Int32) = (0 : Int32))).1) (by decide) (by decide) kt) ?_
        show Go p e below _ (T40.setTop (mkF m 139 #[.val (.int fi), .val (.int pv), .val (.long qv), .second, .val (.int av), .val (.int wv), .val (.int fl), .val (.ref b1), .val (.ref bc4), .val (.int (1 : Int32)), .val (.int (0 : Int32)), .val (.int (1 : Int32)), .val .null, .unset, .unset] []))
        refine Go.st (fun _ kt => XS.iconst X40.here hx rfl (hb hby at_139) kt) ?_
        show Go p e below _ (T40.setTop (mkF m 140 #[.val (.int fi), .val (.int pv), .val (.long qv), .second, .val (.int av), .val (.int wv), .val (.int fl), .val (.ref b1), .val (.ref bc4), .val (.int (1 : Int32)), .val (.int (0 : Int32)), .val (.int (1 : Int32)), .val .null, .unset, .unset] [(.int (1 : Int32))]))
        refine Go.st (fun _ kt => XS.goto X40.here hx rfl (pc0 := 140) (pc' := 144) rfl (hb hby at_140) (by decide) (by decide) kt) ?_
        show Go p e below _ (T40.setTop (mkF m 144 #[.val (.int fi), .val (.int pv), .val (.long qv), .second, .val (.int av), .val (.int wv), .val (.int fl), .val (.ref b1), .val (.ref bc4), .val (.int (1 : Int32)), .val (.int (0 : Int32)), .val (.int (1 : Int32)), .val .null, .unset, .unset] [(.int (1 : Int32))]))
        refine Go.st (fun _ kt => XS.istore X40.here hx rfl (hb hby at_144) rfl (l' := #[.val (.int fi), .val (.int pv), .val (.long qv), .second, .val (.int av), .val (.int wv), .val (.int fl), .val (.ref b1), .val (.ref bc4), .val (.int (1 : Int32)), .val (.int (0 : Int32)), .val (.int (1 : Int32)), .val .null, .val (.int (1 : Int32)), .unset]) rfl kt) ?_
        show Go p e below _ (T40.setTop (mkF m 146 #[.val (.int fi), .val (.int pv), .val (.long qv), .second, .val (.int av), .val (.int wv), .val (.int fl), .val (.ref b1), .val (.ref bc4), .val (.int (1 : Int32)), .val (.int (0 : Int32)), .val (.int (1 : Int32)), .val .null, .val (.int (1 : Int32)), .unset] []))
        refine Go.st (fun _ kt => XS.iloadN X40.here hx rfl (hb hby at_146) rfl kt) ?_
        show Go p e below _ (T40.setTop (mkF m 147 #[.val (.int fi), .val (.int pv), .val (.long qv), .second, .val (.int av), .val (.int wv), .val (.int fl), .val (.ref b1), .val (.ref bc4), .val (.int (1 : Int32)), .val (.int (0 : Int32)), .val (.int (1 : Int32)), .val .null, .val (.int (1 : Int32)), .unset] [(.int pv)]))
        by_cases hc147_50 : pv = (0 : Int32)
        · refine Go.st (fun _ kt => XS.ifNo X40.here hx rfl (hb hby at_147) rfl ((if0 _ _).trans (teq hc147_50).2) kt) ?_
          show Go p e below _ (T40.setTop (mkF m 150 #[.val (.int fi), .val (.int pv), .val (.long qv), .second, .val (.int av), .val (.int wv), .val (.int fl), .val (.ref b1), .val (.ref bc4), .val (.int (1 : Int32)), .val (.int (0 : Int32)), .val (.int (1 : Int32)), .val .null, .val (.int (1 : Int32)), .unset] []))
          refine Go.st (fun _ kt => XS.lloadN X40.here hx rfl (hb hby at_150) rfl kt) ?_
          show Go p e below _ (T40.setTop (mkF m 151 #[.val (.int fi), .val (.int pv), .val (.long qv), .second, .val (.int av), .val (.int wv), .val (.int fl), .val (.ref b1), .val (.ref bc4), .val (.int (1 : Int32)), .val (.int (0 : Int32)), .val (.int (1 : Int32)), .val .null, .val (.int (1 : Int32)), .unset] [(.long qv)]))
          refine Go.st (fun _ kt => XS.lconst X40.here hx rfl (hb hby at_151) kt) ?_
          show Go p e below _ (T40.setTop (mkF m 152 #[.val (.int fi), .val (.int pv), .val (.long qv), .second, .val (.int av), .val (.int wv), .val (.int fl), .val (.ref b1), .val (.ref bc4), .val (.int (1 : Int32)), .val (.int (0 : Int32)), .val (.int (1 : Int32)), .val .null, .val (.int (1 : Int32)), .unset] [(.long (0 : Int64)), (.long qv)]))
          refine Go.st (fun _ kt => XS.lcmp X40.here hx rfl (hb hby at_152) rfl kt) ?_
          show Go p e below _ (T40.setTop (mkF m 153 #[.val (.int fi), .val (.int pv), .val (.long qv), .second, .val (.int av), .val (.int wv), .val (.int fl), .val (.ref b1), .val (.ref bc4), .val (.int (1 : Int32)), .val (.int (0 : Int32)), .val (.int (1 : Int32)), .val .null, .val (.int (1 : Int32)), .unset] [(.int (lcmpW qv (0 : Int64)))]))
          by_cases hc153_51 : (lcmpW qv (0 : Int64)) = (0 : Int32)
          · refine Go.st (fun _ kt => XS.ifNo X40.here hx rfl (hb hby at_153) rfl ((if0 _ _).trans (teq hc153_51).2) kt) ?_
            show Go p e below _ (T40.setTop (mkF m 156 #[.val (.int fi), .val (.int pv), .val (.long qv), .second, .val (.int av), .val (.int wv), .val (.int fl), .val (.ref b1), .val (.ref bc4), .val (.int (1 : Int32)), .val (.int (0 : Int32)), .val (.int (1 : Int32)), .val .null, .val (.int (1 : Int32)), .unset] []))
            refine Go.st (fun _ kt => XS.iload X40.here hx rfl (hb hby at_156) rfl kt) ?_
            show Go p e below _ (T40.setTop (mkF m 158 #[.val (.int fi), .val (.int pv), .val (.long qv), .second, .val (.int av), .val (.int wv), .val (.int fl), .val (.ref b1), .val (.ref bc4), .val (.int (1 : Int32)), .val (.int (0 : Int32)), .val (.int (1 : Int32)), .val .null, .val (.int (1 : Int32)), .unset] [(.int (1 : Int32))]))
            refine Go.st (fun _ kt => XS.ifNo X40.here hx rfl (hb hby at_158) rfl ((if0 _ _).trans (feq (by decide : ¬ ((1 : Int32) = (0 : Int32)))).1) kt) ?_
            show Go p e below _ (T40.setTop (mkF m 161 #[.val (.int fi), .val (.int pv), .val (.long qv), .second, .val (.int av), .val (.int wv), .val (.int fl), .val (.ref b1), .val (.ref bc4), .val (.int (1 : Int32)), .val (.int (0 : Int32)), .val (.int (1 : Int32)), .val .null, .val (.int (1 : Int32)), .unset] []))
            refine Go.st (fun _ kt => XS.iconst X40.here hx rfl (hb hby at_161) kt) ?_
            show Go p e below _ (T40.setTop (mkF m 162 #[.val (.int fi), .val (.int pv), .val (.long qv), .second, .val (.int av), .val (.int wv), .val (.int fl), .val (.ref b1), .val (.ref bc4), .val (.int (1 : Int32)), .val (.int (0 : Int32)), .val (.int (1 : Int32)), .val .null, .val (.int (1 : Int32)), .unset] [(.int (1 : Int32))]))
            refine Go.st (fun _ kt => XS.goto X40.here hx rfl (pc0 := 162) (pc' := 166) rfl (hb hby at_162) (by decide) (by decide) kt) ?_
            show Go p e below _ (T40.setTop (mkF m 166 #[.val (.int fi), .val (.int pv), .val (.long qv), .second, .val (.int av), .val (.int wv), .val (.int fl), .val (.ref b1), .val (.ref bc4), .val (.int (1 : Int32)), .val (.int (0 : Int32)), .val (.int (1 : Int32)), .val .null, .val (.int (1 : Int32)), .unset] [(.int (1 : Int32))]))
            refine Go.st (fun _ kt => XS.istore X40.here hx rfl (hb hby at_166) rfl (l' := #[.val (.int fi), .val (.int pv), .val (.long qv), .second, .val (.int av), .val (.int wv), .val (.int fl), .val (.ref b1), .val (.ref bc4), .val (.int (1 : Int32)), .val (.int (0 : Int32)), .val (.int (1 : Int32)), .val .null, .val (.int (1 : Int32)), .val (.int (1 : Int32))]) rfl kt) ?_
            show Go p e below _ (T40.setTop (mkF m 168 #[.val (.int fi), .val (.int pv), .val (.long qv), .second, .val (.int av), .val (.int wv), .val (.int fl), .val (.ref b1), .val (.ref bc4), .val (.int (1 : Int32)), .val (.int (0 : Int32)), .val (.int (1 : Int32)), .val .null, .val (.int (1 : Int32)), .val (.int (1 : Int32))] []))
            refine Go.st (fun _ kt => XS.iload X40.here hx rfl (hb hby at_168) rfl kt) ?_
            show Go p e below _ (T40.setTop (mkF m 170 #[.val (.int fi), .val (.int pv), .val (.long qv), .second, .val (.int av), .val (.int wv), .val (.int fl), .val (.ref b1), .val (.ref bc4), .val (.int (1 : Int32)), .val (.int (0 : Int32)), .val (.int (1 : Int32)), .val .null, .val (.int (1 : Int32)), .val (.int (1 : Int32))] [(.int (1 : Int32))]))
            refine Go.st (fun _ kt => XS.ifNo X40.here hx rfl (hb hby at_170) rfl ((if0 _ _).trans (feq (by decide : ¬ ((1 : Int32) = (0 : Int32)))).1) kt) ?_
            show Go p e below _ (T40.setTop (mkF m 173 #[.val (.int fi), .val (.int pv), .val (.long qv), .second, .val (.int av), .val (.int wv), .val (.int fl), .val (.ref b1), .val (.ref bc4), .val (.int (1 : Int32)), .val (.int (0 : Int32)), .val (.int (1 : Int32)), .val .null, .val (.int (1 : Int32)), .val (.int (1 : Int32))] []))
            refine Go.st (fun _ kt => XS.aload X40.here hx rfl (hb hby at_173) rfl rfl kt) ?_
            show Go p e below _ (T40.setTop (mkF m 175 #[.val (.int fi), .val (.int pv), .val (.long qv), .second, .val (.int av), .val (.int wv), .val (.int fl), .val (.ref b1), .val (.ref bc4), .val (.int (1 : Int32)), .val (.int (0 : Int32)), .val (.int (1 : Int32)), .val .null, .val (.int (1 : Int32)), .val (.int (1 : Int32))] [(.ref b1)]))
            refine Go.st (fun _ kt => XS.aload X40.here hx rfl (hb hby at_175) rfl rfl kt) ?_
            show Go p e below _ (T40.setTop (mkF m 177 #[.val (.int fi), .val (.int pv), .val (.long qv), .second, .val (.int av), .val (.int wv), .val (.int fl), .val (.ref b1), .val (.ref bc4), .val (.int (1 : Int32)), .val (.int (0 : Int32)), .val (.int (1 : Int32)), .val .null, .val (.int (1 : Int32)), .val (.int (1 : Int32))] [(.ref bc4), (.ref b1)]))
            have f52 := (((Fx4.keep K38q (ninS (Nat.ne_of_gt lt_b1_bc4) nin0)).keep K39q (ninS (Nat.ne_of_gt lt_b1_bc4) nin0)).keep K40q (ninS (Nat.ne_of_gt lt_b1_bc4) nin0))
            obtain ⟨cq53, kq53, q53a, q53b, q53c⟩ := isOf hZ rfl E_k40
            obtain ⟨_, _, ⟨T53, L53, k53, n53⟩, -, X53, ⟨Lc53, hQ53, l53, y53, z53⟩, st53⟩ := X40.virtualBack hx (y := (⟨"com/example/manyhands/manyhands/crowd/Totals", "countedSince", "(Lcom/example/manyhands/manyhands/crowd/Totals;)Z"⟩ : MethodName)) (z := (⟨"com/example/manyhands/manyhands/crowd/Totals", "countedSince", "(Lcom/example/manyhands/manyhands/crowd/Totals;)Z"⟩ : MethodName)) hown (mvT hZ (hw _ (List.mem_of_getElem? (i := 31) rfl))) (mvT hZ (hw _ (List.mem_of_getElem? (i := 32) rfl))) (notFace_of_selects (args := #[]) (mvT hZ (hw _ (List.mem_of_getElem? (i := 34) rfl)))) (mvT hZ (hw _ (List.mem_of_getElem? (i := 34) rfl))) (mvT hZ (hw _ (List.mem_of_getElem? (i := 33) rfl))) (by decide) (backOf (W := 0) (rm6n l Z a0 hw [] b1 bc4 (own_c1 qv (own_c1 av.toInt64 (own_c0 pv (own_c0 fi (0 : Int64))))) (own_c0 fi (0 : Int64)) T40.heap n0 Zs40 Fnk40 f52 (own_ne0 _ (Or.inr (Or.inr (fun q => hc126_41 (own_tz.mp q)))))) hZ (hw _ (List.mem_of_getElem? (i := 35) rfl)) (hw _ (List.mem_of_getElem? (i := 2) rfl)) (by decide) (by decide)) q53a q53c (g := (mkF m 177 #[.val (.int fi), .val (.int pv), .val (.long qv), .second, .val (.int av), .val (.int wv), .val (.int fl), .val (.ref b1), .val (.ref bc4), .val (.int (1 : Int32)), .val (.int (0 : Int32)), .val (.int (1 : Int32)), .val .null, .val (.int (1 : Int32)), .val (.int (1 : Int32))] [(.ref bc4), (.ref b1)])) rfl (by rw [hml]; rfl) (Steps.refl _) (argsL := [(.ref bc4)]) (rest := []) (lenOf own_pd8 rfl) rfl (by show 2 * 0 + _ ≤ _; exact Nat.le_of_eq rfl) (hb hby at_177) (fun _ _ => ⟨rfl, rfl, (by decide : 2 + 0 ≤ _), (by decide : 10 + 0 ≤ _)⟩)
            dsimp only [Pt.U, Pt.locs, Pt.cells, Pt.slots] at X53 l53 y53 z53 st53 hQ53
            subst l53 y53 z53
            obtain ⟨rfl, N53q, e53⟩ := hQ53
            have N53 := Fr.app N40 N53q
            refine Go.tr st53 ?_
            show Go p e below _ (T53.setTop (mkF m 180 #[.val (.int fi), .val (.int pv), .val (.long qv), .second, .val (.int av), .val (.int wv), .val (.int fl), .val (.ref b1), .val (.ref bc4), .val (.int (1 : Int32)), .val (.int (0 : Int32)), .val (.int (1 : Int32)), .val .null, .val (.int (1 : Int32)), .val (.int (1 : Int32))] [(.int (1 : Int32))]))
            refine Go.st (fun _ kt => XS.iload X53.here hx rfl (hb hby at_180) rfl kt) ?_
            show Go p e below _ (T53.setTop (mkF m 182 #[.val (.int fi), .val (.int pv), .val (.long qv), .second, .val (.int av), .val (.int wv), .val (.int fl), .val (.ref b1), .val (.ref bc4), .val (.int (1 : Int32)), .val (.int (0 : Int32)), .val (.int (1 : Int32)), .val .null, .val (.int (1 : Int32)), .val (.int (1 : Int32))] [(.int (1 : Int32)), (.int (1 : Int32))]))
            refine Go.st (fun _ kt => XS.icmpNo X53.here hx rfl (hb hby at_182) rfl (teq (by decide : (1 : Int32) = (1 : Int32))).2 kt) ?_
            show Go p e below _ (T53.setTop (mkF m 185 #[.val (.int fi), .val (.int pv), .val (.long qv), .second, .val (.int av), .val (.int wv), .val (.int fl), .val (.ref b1), .val (.ref bc4), .val (.int (1 : Int32)), .val (.int (0 : Int32)), .val (.int (1 : Int32)), .val .null, .val (.int (1 : Int32)), .val (.int (1 : Int32))] []))
            refine Go.st (fun _ kt => XS.iconst X53.here hx rfl (hb hby at_185) kt) ?_
            show Go p e below _ (T53.setTop (mkF m 186 #[.val (.int fi), .val (.int pv), .val (.long qv), .second, .val (.int av), .val (.int wv), .val (.int fl), .val (.ref b1), .val (.ref bc4), .val (.int (1 : Int32)), .val (.int (0 : Int32)), .val (.int (1 : Int32)), .val .null, .val (.int (1 : Int32)), .val (.int (1 : Int32))] [(.int (1 : Int32))]))
            refine Go.st (fun _ kt => XS.goto X53.here hx rfl (pc0 := 186) (pc' := 190) rfl (hb hby at_186) (by decide) (by decide) kt) ?_
            show Go p e below _ (T53.setTop (mkF m 190 #[.val (.int fi), .val (.int pv), .val (.long qv), .second, .val (.int av), .val (.int wv), .val (.int fl), .val (.ref b1), .val (.ref bc4), .val (.int (1 : Int32)), .val (.int (0 : Int32)), .val (.int (1 : Int32)), .val .null, .val (.int (1 : Int32)), .val (.int (1 : Int32))] [(.int (1 : Int32))]))
            refine Go.retN X53 hx (t := .boolean) Bd.returns (by simp) (BodyLoose.notSynchronized Bd) (hb hby at_190) (Q := (Q_rm0 Z fi pv qv av wv fl h0 n0)) (by decide) (by decide) ?_
            show (Q_rm0 Z fi pv qv av wv fl h0 n0) _ T53.heap _
            rw [e53]
            exact ⟨rfl, N53⟩
          · refine Go.st (fun _ kt => XS.ifYes X40.here hx rfl (pc0 := 153) (pc' := 161) rfl (hb hby at_153) rfl ((if0 _ _).trans (feq hc153_51).2) (by decide) (by decide) kt) ?_
            show Go p e below _ (T40.setTop (mkF m 161 #[.val (.int fi), .val (.int pv), .val (.long qv), .second, .val (.int av), .val (.int wv), .val (.int fl), .val (.ref b1), .val (.ref bc4), .val (.int (1 : Int32)), .val (.int (0 : Int32)), .val (.int (1 : Int32)), .val .null, .val (.int (1 : Int32)), .unset] []))
            refine Go.st (fun _ kt => XS.iconst X40.here hx rfl (hb hby at_161) kt) ?_
            show Go p e below _ (T40.setTop (mkF m 162 #[.val (.int fi), .val (.int pv), .val (.long qv), .second, .val (.int av), .val (.int wv), .val (.int fl), .val (.ref b1), .val (.ref bc4), .val (.int (1 : Int32)), .val (.int (0 : Int32)), .val (.int (1 : Int32)), .val .null, .val (.int (1 : Int32)), .unset] [(.int (1 : Int32))]))
            refine Go.st (fun _ kt => XS.goto X40.here hx rfl (pc0 := 162) (pc' := 166) rfl (hb hby at_162) (by decide) (by decide) kt) ?_
            show Go p e below _ (T40.setTop (mkF m 166 #[.val (.int fi), .val (.int pv), .val (.long qv), .second, .val (.int av), .val (.int wv), .val (.int fl), .val (.ref b1), .val (.ref bc4), .val (.int (1 : Int32)), .val (.int (0 : Int32)), .val (.int (1 : Int32)), .val .null, .val (.int (1 : Int32)), .unset] [(.int (1 : Int32))]))
            refine Go.st (fun _ kt => XS.istore X40.here hx rfl (hb hby at_166) rfl (l' := #[.val (.int fi), .val (.int pv), .val (.long qv), .second, .val (.int av), .val (.int wv), .val (.int fl), .val (.ref b1), .val (.ref bc4), .val (.int (1 : Int32)), .val (.int (0 : Int32)), .val (.int (1 : Int32)), .val .null, .val (.int (1 : Int32)), .val (.int (1 : Int32))]) rfl kt) ?_
            show Go p e below _ (T40.setTop (mkF m 168 #[.val (.int fi), .val (.int pv), .val (.long qv), .second, .val (.int av), .val (.int wv), .val (.int fl), .val (.ref b1), .val (.ref bc4), .val (.int (1 : Int32)), .val (.int (0 : Int32)), .val (.int (1 : Int32)), .val .null, .val (.int (1 : Int32)), .val (.int (1 : Int32))] []))
            refine Go.st (fun _ kt => XS.iload X40.here hx rfl (hb hby at_168) rfl kt) ?_
            show Go p e below _ (T40.setTop (mkF m 170 #[.val (.int fi), .val (.int pv), .val (.long qv), .second, .val (.int av), .val (.int wv), .val (.int fl), .val (.ref b1), .val (.ref bc4), .val (.int (1 : Int32)), .val (.int (0 : Int32)), .val (.int (1 : Int32)), .val .null, .val (.int (1 : Int32)), .val (.int (1 : Int32))] [(.int (1 : Int32))]))
            refine Go.st (fun _ kt => XS.ifNo X40.here hx rfl (hb hby at_170) rfl ((if0 _ _).trans (feq (by decide : ¬ ((1 : Int32) = (0 : Int32)))).1) kt) ?_
            show Go p e below _ (T40.setTop (mkF m 173 #[.val (.int fi), .val (.int pv), .val (.long qv), .second, .val (.int av), .val (.int wv), .val (.int fl), .val (.ref b1), .val (.ref bc4), .val (.int (1 : Int32)), .val (.int (0 : Int32)), .val (.int (1 : Int32)), .val .null, .val (.int (1 : Int32)), .val (.int (1 : Int32))] []))
            refine Go.st (fun _ kt => XS.aload X40.here hx rfl (hb hby at_173) rfl rfl kt) ?_
            show Go p e below _ (T40.setTop (mkF m 175 #[.val (.int fi), .val (.int pv), .val (.long qv), .second, .val (.int av), .val (.int wv), .val (.int fl), .val (.ref b1), .val (.ref bc4), .val (.int (1 : Int32)), .val (.int (0 : Int32)), .val (.int (1 : Int32)), .val .null, .val (.int (1 : Int32)), .val (.int (1 : Int32))] [(.ref b1)]))
            refine Go.st (fun _ kt => XS.aload X40.here hx rfl (hb hby at_175) rfl rfl kt) ?_
            show Go p e below _ (T40.setTop (mkF m 177 #[.val (.int fi), .val (.int pv), .val (.long qv), .second, .val (.int av), .val (.int wv), .val (.int fl), .val (.ref b1), .val (.ref bc4), .val (.int (1 : Int32)), .val (.int (0 : Int32)), .val (.int (1 : Int32)), .val .null, .val (.int (1 : Int32)), .val (.int (1 : Int32))] [(.ref bc4), (.ref b1)]))
            have f54 := (((Fx4.keep K38q (ninS (Nat.ne_of_gt lt_b1_bc4) nin0)).keep K39q (ninS (Nat.ne_of_gt lt_b1_bc4) nin0)).keep K40q (ninS (Nat.ne_of_gt lt_b1_bc4) nin0))
            obtain ⟨cq55, kq55, q55a, q55b, q55c⟩ := isOf hZ rfl E_k40
            obtain ⟨_, _, ⟨T55, L55, k55, n55⟩, -, X55, ⟨Lc55, hQ55, l55, y55, z55⟩, st55⟩ := X40.virtualBack hx (y := (⟨"com/example/manyhands/manyhands/crowd/Totals", "countedSince", "(Lcom/example/manyhands/manyhands/crowd/Totals;)Z"⟩ : MethodName)) (z := (⟨"com/example/manyhands/manyhands/crowd/Totals", "countedSince", "(Lcom/example/manyhands/manyhands/crowd/Totals;)Z"⟩ : MethodName)) hown (mvT hZ (hw _ (List.mem_of_getElem? (i := 31) rfl))) (mvT hZ (hw _ (List.mem_of_getElem? (i := 32) rfl))) (notFace_of_selects (args := #[]) (mvT hZ (hw _ (List.mem_of_getElem? (i := 34) rfl)))) (mvT hZ (hw _ (List.mem_of_getElem? (i := 34) rfl))) (mvT hZ (hw _ (List.mem_of_getElem? (i := 33) rfl))) (by decide) (backOf (W := 0) (rm6n l Z a0 hw [] b1 bc4 (own_c1 qv (own_c1 av.toInt64 (own_c0 pv (own_c0 fi (0 : Int64))))) (own_c0 fi (0 : Int64)) T40.heap n0 Zs40 Fnk40 f54 (own_ne0 _ (Or.inr (Or.inl (fun q => hc153_51 ((lw_eq _ _).mpr q)))))) hZ (hw _ (List.mem_of_getElem? (i := 35) rfl)) (hw _ (List.mem_of_getElem? (i := 2) rfl)) (by decide) (by decide)) q55a q55c (g := (mkF m 177 #[.val (.int fi), .val (.int pv), .val (.long qv), .second, .val (.int av), .val (.int wv), .val (.int fl), .val (.ref b1), .val (.ref bc4), .val (.int (1 : Int32)), .val (.int (0 : Int32)), .val (.int (1 : Int32)), .val .null, .val (.int (1 : Int32)), .val (.int (1 : Int32))] [(.ref bc4), (.ref b1)])) rfl (by rw [hml]; rfl) (Steps.refl _) (argsL := [(.ref bc4)]) (rest := []) (lenOf own_pd8 rfl) rfl (by show 2 * 0 + _ ≤ _; exact Nat.le_of_eq rfl) (hb hby at_177) (fun _ _ => ⟨rfl, rfl, (by decide : 2 + 0 ≤ _), (by decide : 10 + 0 ≤ _)⟩)
            dsimp only [Pt.U, Pt.locs, Pt.cells, Pt.slots] at X55 l55 y55 z55 st55 hQ55
            subst l55 y55 z55
            obtain ⟨rfl, N55q, e55⟩ := hQ55
            have N55 := Fr.app N40 N55q
            refine Go.tr st55 ?_
            show Go p e below _ (T55.setTop (mkF m 180 #[.val (.int fi), .val (.int pv), .val (.long qv), .second, .val (.int av), .val (.int wv), .val (.int fl), .val (.ref b1), .val (.ref bc4), .val (.int (1 : Int32)), .val (.int (0 : Int32)), .val (.int (1 : Int32)), .val .null, .val (.int (1 : Int32)), .val (.int (1 : Int32))] [(.int (1 : Int32))]))
            refine Go.st (fun _ kt => XS.iload X55.here hx rfl (hb hby at_180) rfl kt) ?_
            show Go p e below _ (T55.setTop (mkF m 182 #[.val (.int fi), .val (.int pv), .val (.long qv), .second, .val (.int av), .val (.int wv), .val (.int fl), .val (.ref b1), .val (.ref bc4), .val (.int (1 : Int32)), .val (.int (0 : Int32)), .val (.int (1 : Int32)), .val .null, .val (.int (1 : Int32)), .val (.int (1 : Int32))] [(.int (1 : Int32)), (.int (1 : Int32))]))
            refine Go.st (fun _ kt => XS.icmpNo X55.here hx rfl (hb hby at_182) rfl (teq (by decide : (1 : Int32) = (1 : Int32))).2 kt) ?_
            show Go p e below _ (T55.setTop (mkF m 185 #[.val (.int fi), .val (.int pv), .val (.long qv), .second, .val (.int av), .val (.int wv), .val (.int fl), .val (.ref b1), .val (.ref bc4), .val (.int (1 : Int32)), .val (.int (0 : Int32)), .val (.int (1 : Int32)), .val .null, .val (.int (1 : Int32)), .val (.int (1 : Int32))] []))
            refine Go.st (fun _ kt => XS.iconst X55.here hx rfl (hb hby at_185) kt) ?_
            show Go p e below _ (T55.setTop (mkF m 186 #[.val (.int fi), .val (.int pv), .val (.long qv), .second, .val (.int av), .val (.int wv), .val (.int fl), .val (.ref b1), .val (.ref bc4), .val (.int (1 : Int32)), .val (.int (0 : Int32)), .val (.int (1 : Int32)), .val .null, .val (.int (1 : Int32)), .val (.int (1 : Int32))] [(.int (1 : Int32))]))
            refine Go.st (fun _ kt => XS.goto X55.here hx rfl (pc0 := 186) (pc' := 190) rfl (hb hby at_186) (by decide) (by decide) kt) ?_
            show Go p e below _ (T55.setTop (mkF m 190 #[.val (.int fi), .val (.int pv), .val (.long qv), .second, .val (.int av), .val (.int wv), .val (.int fl), .val (.ref b1), .val (.ref bc4), .val (.int (1 : Int32)), .val (.int (0 : Int32)), .val (.int (1 : Int32)), .val .null, .val (.int (1 : Int32)), .val (.int (1 : Int32))] [(.int (1 : Int32))]))
            refine Go.retN X55 hx (t := .boolean) Bd.returns (by simp) (BodyLoose.notSynchronized Bd) (hb hby at_190) (Q := (Q_rm0 Z fi pv qv av wv fl h0 n0)) (by decide) (by decide) ?_
            show (Q_rm0 Z fi pv qv av wv fl h0 n0) _ T55.heap _
            rw [e55]
            exact ⟨rfl, N55⟩
        · refine Go.st (fun _ kt => XS.ifYes X40.here hx rfl (pc0 := 147) (pc' := 161) rfl (hb hby at_147) rfl ((if0 _ _).trans (feq hc147_50).2) (by decide) (by decide) kt) ?_
          show Go p e below _ (T40.setTop (mkF m 161 #[.val (.int fi), .val (.int pv), .val (.long qv), .second, .val (.int av), .val (.int wv), .val (.int fl), .val (.ref b1), .val (.ref bc4), .val (.int (1 : Int32)), .val (.int (0 : Int32)), .val (.int (1 : Int32)), .val .null, .val (.int (1 : Int32)), .unset] []))
          refine Go.st (fun _ kt => XS.iconst X40.here hx rfl (hb hby at_161) kt) ?_
          show Go p e below _ (T40.setTop (mkF m 162 #[.val (.int fi), .val (.int pv), .val (.long qv), .second, .val (.int av), .val (.int wv), .val (.int fl), .val (.ref b1), .val (.ref bc4), .val (.int (1 : Int32)), .val (.int (0 : Int32)), .val (.int (1 : Int32)), .val .null, .val (.int (1 : Int32)), .unset] [(.int (1 : Int32))]))
          refine Go.st (fun _ kt => XS.goto X40.here hx rfl (pc0 := 162) (pc' := 166) rfl (hb hby at_162) (by decide) (by decide) kt) ?_
          show Go p e below _ (T40.setTop (mkF m 166 #[.val (.int fi), .val (.int pv), .val (.long qv), .second, .val (.int av), .val (.int wv), .val (.int fl), .val (.ref b1), .val (.ref bc4), .val (.int (1 : Int32)), .val (.int (0 : Int32)), .val (.int (1 : Int32)), .val .null, .val (.int (1 : Int32)), .unset] [(.int (1 : Int32))]))
          refine Go.st (fun _ kt => XS.istore X40.here hx rfl (hb hby at_166) rfl (l' := #[.val (.int fi), .val (.int pv), .val (.long qv), .second, .val (.int av), .val (.int wv), .val (.int fl), .val (.ref b1), .val (.ref bc4), .val (.int (1 : Int32)), .val (.int (0 : Int32)), .val (.int (1 : Int32)), .val .null, .val (.int (1 : Int32)), .val (.int (1 : Int32))]) rfl kt) ?_
          show Go p e below _ (T40.setTop (mkF m 168 #[.val (.int fi), .val (.int pv), .val (.long qv), .second, .val (.int av), .val (.int wv), .val (.int fl), .val (.ref b1), .val (.ref bc4), .val (.int (1 : Int32)), .val (.int (0 : Int32)), .val (.int (1 : Int32)), .val .null, .val (.int (1 : Int32)), .val (.int (1 : Int32))] []))
          refine Go.st (fun _ kt => XS.iload X40.here hx rfl (hb hby at_168) rfl kt) ?_
          show Go p e below _ (T40.setTop (mkF m 170 #[.val (.int fi), .val (.int pv), .val (.long qv), .second, .val (.int av), .val (.int wv), .val (.int fl), .val (.ref b1), .val (.ref bc4), .val (.int (1 : Int32)), .val (.int (0 : Int32)), .val (.int (1 : Int32)), .val .null, .val (.int (1 : Int32)), .val (.int (1 : Int32))] [(.int (1 : Int32))]))
          refine Go.st (fun _ kt => XS.ifNo X40.here hx rfl (hb hby at_170) rfl ((if0 _ _).trans (feq (by decide : ¬ ((1 : Int32) = (0 : Int32)))).1) kt) ?_
          show Go p e below _ (T40.setTop (mkF m 173 #[.val (.int fi), .val (.int pv), .val (.long qv), .second, .val (.int av), .val (.int wv), .val (.int fl), .val (.ref b1), .val (.ref bc4), .val (.int (1 : Int32)), .val (.int (0 : Int32)), .val (.int (1 : Int32)), .val .null, .val (.int (1 : Int32)), .val (.int (1 : Int32))] []))
          refine Go.st (fun _ kt => XS.aload X40.here hx rfl (hb hby at_173) rfl rfl kt) ?_
          show Go p e below _ (T40.setTop (mkF m 175 #[.val (.int fi), .val (.int pv), .val (.long qv), .second, .val (.int av), .val (.int wv), .val (.int fl), .val (.ref b1), .val (.ref bc4), .val (.int (1 : Int32)), .val (.int (0 : Int32)), .val (.int (1 : Int32)), .val .null, .val (.int (1 : Int32)), .val (.int (1 : Int32))] [(.ref b1)]))
          refine Go.st (fun _ kt => XS.aload X40.here hx rfl (hb hby at_175) rfl rfl kt) ?_
          show Go p e below _ (T40.setTop (mkF m 177 #[.val (.int fi), .val (.int pv), .val (.long qv), .second, .val (.int av), .val (.int wv), .val (.int fl), .val (.ref b1), .val (.ref bc4), .val (.int (1 : Int32)), .val (.int (0 : Int32)), .val (.int (1 : Int32)), .val .null, .val (.int (1 : Int32)), .val (.int (1 : Int32))] [(.ref bc4), (.ref b1)]))
          have f56 := (((Fx4.keep K38q (ninS (Nat.ne_of_gt lt_b1_bc4) nin0)).keep K39q (ninS (Nat.ne_of_gt lt_b1_bc4) nin0)).keep K40q (ninS (Nat.ne_of_gt lt_b1_bc4) nin0))
          obtain ⟨cq57, kq57, q57a, q57b, q57c⟩ := isOf hZ rfl E_k40
          obtain ⟨_, _, ⟨T57, L57, k57, n57⟩, -, X57, ⟨Lc57, hQ57, l57, y57, z57⟩, st57⟩ := X40.virtualBack hx (y := (⟨"com/example/manyhands/manyhands/crowd/Totals", "countedSince", "(Lcom/example/manyhands/manyhands/crowd/Totals;)Z"⟩ : MethodName)) (z := (⟨"com/example/manyhands/manyhands/crowd/Totals", "countedSince", "(Lcom/example/manyhands/manyhands/crowd/Totals;)Z"⟩ : MethodName)) hown (mvT hZ (hw _ (List.mem_of_getElem? (i := 31) rfl))) (mvT hZ (hw _ (List.mem_of_getElem? (i := 32) rfl))) (notFace_of_selects (args := #[]) (mvT hZ (hw _ (List.mem_of_getElem? (i := 34) rfl)))) (mvT hZ (hw _ (List.mem_of_getElem? (i := 34) rfl))) (mvT hZ (hw _ (List.mem_of_getElem? (i := 33) rfl))) (by decide) (backOf (W := 0) (rm6n l Z a0 hw [] b1 bc4 (own_c1 qv (own_c1 av.toInt64 (own_c0 pv (own_c0 fi (0 : Int64))))) (own_c0 fi (0 : Int64)) T40.heap n0 Zs40 Fnk40 f56 (own_ne0 _ (Or.inl hc147_50))) hZ (hw _ (List.mem_of_getElem? (i := 35) rfl)) (hw _ (List.mem_of_getElem? (i := 2) rfl)) (by decide) (by decide)) q57a q57c (g := (mkF m 177 #[.val (.int fi), .val (.int pv), .val (.long qv), .second, .val (.int av), .val (.int wv), .val (.int fl), .val (.ref b1), .val (.ref bc4), .val (.int (1 : Int32)), .val (.int (0 : Int32)), .val (.int (1 : Int32)), .val .null, .val (.int (1 : Int32)), .val (.int (1 : Int32))] [(.ref bc4), (.ref b1)])) rfl (by rw [hml]; rfl) (Steps.refl _) (argsL := [(.ref bc4)]) (rest := []) (lenOf own_pd8 rfl) rfl (by show 2 * 0 + _ ≤ _; exact Nat.le_of_eq rfl) (hb hby at_177) (fun _ _ => ⟨rfl, rfl, (by decide : 2 + 0 ≤ _), (by decide : 10 + 0 ≤ _)⟩)
          dsimp only [Pt.U, Pt.locs, Pt.cells, Pt.slots] at X57 l57 y57 z57 st57 hQ57
          subst l57 y57 z57
          obtain ⟨rfl, N57q, e57⟩ := hQ57
          have N57 := Fr.app N40 N57q
          refine Go.tr st57 ?_
          show Go p e below _ (T57.setTop (mkF m 180 #[.val (.int fi), .val (.int pv), .val (.long qv), .second, .val (.int av), .val (.int wv), .val (.int fl), .val (.ref b1), .val (.ref bc4), .val (.int (1 : Int32)), .val (.int (0 : Int32)), .val (.int (1 : Int32)), .val .null, .val (.int (1 : Int32)), .val (.int (1 : Int32))] [(.int (1 : Int32))]))
          refine Go.st (fun _ kt => XS.iload X57.here hx rfl (hb hby at_180) rfl kt) ?_
          show Go p e below _ (T57.setTop (mkF m 182 #[.val (.int fi), .val (.int pv), .val (.long qv), .second, .val (.int av), .val (.int wv), .val (.int fl), .val (.ref b1), .val (.ref bc4), .val (.int (1 : Int32)), .val (.int (0 : Int32)), .val (.int (1 : Int32)), .val .null, .val (.int (1 : Int32)), .val (.int (1 : Int32))] [(.int (1 : Int32)), (.int (1 : Int32))]))
          refine Go.st (fun _ kt => XS.icmpNo X57.here hx rfl (hb hby at_182) rfl (teq (by decide : (1 : Int32) = (1 : Int32))).2 kt) ?_
          show Go p e below _ (T57.setTop (mkF m 185 #[.val (.int fi), .val (.int pv), .val (.long qv), .second, .val (.int av), .val (.int wv), .val (.int fl), .val (.ref b1), .val (.ref bc4), .val (.int (1 : Int32)), .val (.int (0 : Int32)), .val (.int (1 : Int32)), .val .null, .val (.int (1 : Int32)), .val (.int (1 : Int32))] []))
          refine Go.st (fun _ kt => XS.iconst X57.here hx rfl (hb hby at_185) kt) ?_
          show Go p e below _ (T57.setTop (mkF m 186 #[.val (.int fi), .val (.int pv), .val (.long qv), .second, .val (.int av), .val (.int wv), .val (.int fl), .val (.ref b1), .val (.ref bc4), .val (.int (1 : Int32)), .val (.int (0 : Int32)), .val (.int (1 : Int32)), .val .null, .val (.int (1 : Int32)), .val (.int (1 : Int32))] [(.int (1 : Int32))]))
          refine Go.st (fun _ kt => XS.goto X57.here hx rfl (pc0 := 186) (pc' := 190) rfl (hb hby at_186) (by decide) (by decide) kt) ?_
          show Go p e below _ (T57.setTop (mkF m 190 #[.val (.int fi), .val (.int pv), .val (.long qv), .second, .val (.int av), .val (.int wv), .val (.int fl), .val (.ref b1), .val (.ref bc4), .val (.int (1 : Int32)), .val (.int (0 : Int32)), .val (.int (1 : Int32)), .val .null, .val (.int (1 : Int32)), .val (.int (1 : Int32))] [(.int (1 : Int32))]))
          refine Go.retN X57 hx (t := .boolean) Bd.returns (by simp) (BodyLoose.notSynchronized Bd) (hb hby at_190) (Q := (Q_rm0 Z fi pv qv av wv fl h0 n0)) (by decide) (by decide) ?_
          show (Q_rm0 Z fi pv qv av wv fl h0 n0) _ T57.heap _
          rw [e57]
          exact ⟨rfl, N57⟩
  · refine Go.st (fun _ kt => XS.ifNo X6.here hx rfl (hb hby at_43) rfl ((if0 _ _).trans (feq hc43_8).1) kt) ?_
    show Go p e below _ (T6.setTop (mkF m 46 #[.val (.int fi), .val (.int pv), .val (.long qv), .second, .val (.int av), .val (.int wv), .val (.int fl), .val (.ref b1), .val (.ref bc4), .val (.int (1 : Int32)), .unset, .unset, .unset, .unset, .unset] []))
    refine Go.st (fun _ kt => XS.iconst X6.here hx rfl (hb hby at_46) kt) ?_
    show Go p e below _ (T6.setTop (mkF m 47 #[.val (.int fi), .val (.int pv), .val (.long qv), .second, .val (.int av), .val (.int wv), .val (.int fl), .val (.ref b1), .val (.ref bc4), .val (.int (1 : Int32)), .unset, .unset, .unset, .unset, .unset] [(.int (1 : Int32))]))
    refine Go.st (fun _ kt => XS.goto X6.here hx rfl (pc0 := 47) (pc' := 51) rfl (hb hby at_47) (by decide) (by decide) kt) ?_
    show Go p e below _ (T6.setTop (mkF m 51 #[.val (.int fi), .val (.int pv), .val (.long qv), .second, .val (.int av), .val (.int wv), .val (.int fl), .val (.ref b1), .val (.ref bc4), .val (.int (1 : Int32)), .unset, .unset, .unset, .unset, .unset] [(.int (1 : Int32))]))
    refine Go.st (fun _ kt => XS.istore X6.here hx rfl (hb hby at_51) rfl (l' := #[.val (.int fi), .val (.int pv), .val (.long qv), .second, .val (.int av), .val (.int wv), .val (.int fl), .val (.ref b1), .val (.ref bc4), .val (.int (1 : Int32)), .val (.int (1 : Int32)), .unset, .unset, .unset, .unset]) rfl kt) ?_
    show Go p e below _ (T6.setTop (mkF m 53 #[.val (.int fi), .val (.int pv), .val (.long qv), .second, .val (.int av), .val (.int wv), .val (.int fl), .val (.ref b1), .val (.ref bc4), .val (.int (1 : Int32)), .val (.int (1 : Int32)), .unset, .unset, .unset, .unset] []))
    refine Go.st (fun _ kt => XS.iload X6.here hx rfl (hb hby at_53) rfl kt) ?_
    show Go p e below _ (T6.setTop (mkF m 55 #[.val (.int fi), .val (.int pv), .val (.long qv), .second, .val (.int av), .val (.int wv), .val (.int fl), .val (.ref b1), .val (.ref bc4), .val (.int (1 : Int32)), .val (.int (1 : Int32)), .unset, .unset, .unset, .unset] [(.int fl)]))
    refine Go.st (fun _ kt => XS.iconst X6.here hx rfl (hb hby at_55) kt) ?_
    show Go p e below _ (T6.setTop (mkF m 56 #[.val (.int fi), .val (.int pv), .val (.long qv), .second, .val (.int av), .val (.int wv), .val (.int fl), .val (.ref b1), .val (.ref bc4), .val (.int (1 : Int32)), .val (.int (1 : Int32)), .unset, .unset, .unset, .unset] [(.int (2 : Int32)), (.int fl)]))
    refine Go.st (fun _ kt => XS.iand X6.here hx rfl (hb hby at_56) rfl kt) ?_
    show Go p e below _ (T6.setTop (mkF m 57 #[.val (.int fi), .val (.int pv), .val (.long qv), .second, .val (.int av), .val (.int wv), .val (.int fl), .val (.ref b1), .val (.ref bc4), .val (.int (1 : Int32)), .val (.int (1 : Int32)), .unset, .unset, .unset, .unset] [(.int (fl &&& (2 : Int32)))]))
    by_cases hc57_58 : (fl &&& (2 : Int32)) = (0 : Int32)
    · refine Go.st (fun _ kt => XS.ifYes X6.here hx rfl (pc0 := 57) (pc' := 64) rfl (hb hby at_57) rfl ((if0 _ _).trans (teq hc57_58).1) (by decide) (by decide) kt) ?_
      show Go p e below _ (T6.setTop (mkF m 64 #[.val (.int fi), .val (.int pv), .val (.long qv), .second, .val (.int av), .val (.int wv), .val (.int fl), .val (.ref b1), .val (.ref bc4), .val (.int (1 : Int32)), .val (.int (1 : Int32)), .unset, .unset, .unset, .unset] []))
      refine Go.st (fun _ kt => XS.iconst X6.here hx rfl (hb hby at_64) kt) ?_
      show Go p e below _ (T6.setTop (mkF m 65 #[.val (.int fi), .val (.int pv), .val (.long qv), .second, .val (.int av), .val (.int wv), .val (.int fl), .val (.ref b1), .val (.ref bc4), .val (.int (1 : Int32)), .val (.int (1 : Int32)), .unset, .unset, .unset, .unset] [(.int (0 : Int32))]))
      refine Go.st (fun _ kt => XS.istore X6.here hx rfl (hb hby at_65) rfl (l' := #[.val (.int fi), .val (.int pv), .val (.long qv), .second, .val (.int av), .val (.int wv), .val (.int fl), .val (.ref b1), .val (.ref bc4), .val (.int (1 : Int32)), .val (.int (1 : Int32)), .val (.int (0 : Int32)), .unset, .unset, .unset]) rfl kt) ?_
      show Go p e below _ (T6.setTop (mkF m 67 #[.val (.int fi), .val (.int pv), .val (.long qv), .second, .val (.int av), .val (.int wv), .val (.int fl), .val (.ref b1), .val (.ref bc4), .val (.int (1 : Int32)), .val (.int (1 : Int32)), .val (.int (0 : Int32)), .unset, .unset, .unset] []))
      refine Go.st (fun _ kt => XS.aconstNull X6.here hx rfl (hb hby at_67) kt) ?_
      show Go p e below _ (T6.setTop (mkF m 68 #[.val (.int fi), .val (.int pv), .val (.long qv), .second, .val (.int av), .val (.int wv), .val (.int fl), .val (.ref b1), .val (.ref bc4), .val (.int (1 : Int32)), .val (.int (1 : Int32)), .val (.int (0 : Int32)), .unset, .unset, .unset] [.null]))
      refine Go.st (fun _ kt => XS.astore X6.here hx rfl (hb hby at_68) rfl rfl (l' := #[.val (.int fi), .val (.int pv), .val (.long qv), .second, .val (.int av), .val (.int wv), .val (.int fl), .val (.ref b1), .val (.ref bc4), .val (.int (1 : Int32)), .val (.int (1 : Int32)), .val (.int (0 : Int32)), .val .null, .unset, .unset]) rfl kt) ?_
      show Go p e below _ (T6.setTop (mkF m 70 #[.val (.int fi), .val (.int pv), .val (.long qv), .second, .val (.int av), .val (.int wv), .val (.int fl), .val (.ref b1), .val (.ref bc4), .val (.int (1 : Int32)), .val (.int (1 : Int32)), .val (.int (0 : Int32)), .val .null, .unset, .unset] []))
      refine Go.st (fun _ kt => XS.iload X6.here hx rfl (hb hby at_70) rfl kt) ?_
      show Go p e below _ (T6.setTop (mkF m 72 #[.val (.int fi), .val (.int pv), .val (.long qv), .second, .val (.int av), .val (.int wv), .val (.int fl), .val (.ref b1), .val (.ref bc4), .val (.int (1 : Int32)), .val (.int (1 : Int32)), .val (.int (0 : Int32)), .val .null, .unset, .unset] [(.int (1 : Int32))]))
      refine Go.st (fun _ kt => XS.ifNo X6.here hx rfl (hb hby at_72) rfl ((if0 _ _).trans (feq (by decide : ¬ ((1 : Int32) = (0 : Int32)))).1) kt) ?_
      show Go p e below _ (T6.setTop (mkF m 75 #[.val (.int fi), .val (.int pv), .val (.long qv), .second, .val (.int av), .val (.int wv), .val (.int fl), .val (.ref b1), .val (.ref bc4), .val (.int (1 : Int32)), .val (.int (1 : Int32)), .val (.int (0 : Int32)), .val .null, .unset, .unset] []))
      refine Go.st (fun _ kt => XS.aload X6.here hx rfl (hb hby at_75) rfl rfl kt) ?_
      show Go p e below _ (T6.setTop (mkF m 77 #[.val (.int fi), .val (.int pv), .val (.long qv), .second, .val (.int av), .val (.int wv), .val (.int fl), .val (.ref b1), .val (.ref bc4), .val (.int (1 : Int32)), .val (.int (1 : Int32)), .val (.int (0 : Int32)), .val .null, .unset, .unset] [(.ref b1)]))
      have f59 := (Ftk3.keep K4q nin0)
      have f60 := (Fsk3.keep K4q nin0)
      have f61 := (Fck3.keep K4q nin0)
      have f62 := (Fhk3.keep K4q nin0)
      obtain ⟨cq63, kq63, q63a, q63b, q63c⟩ := isOf hZ e6 f7
      obtain ⟨_, _, ⟨T63, L63, k63, n63⟩, -, X63, ⟨Lc63, hQ63, l63, y63, z63⟩, st63⟩ := X6.virtualBack hx (y := (⟨"com/example/manyhands/manyhands/crowd/Totals", "hold", "()Lcom/example/manyhands/manyhands/crowd/Totals$Held;"⟩ : MethodName)) (z := (⟨"com/example/manyhands/manyhands/crowd/Totals", "hold", "()Lcom/example/manyhands/manyhands/crowd/Totals$Held;"⟩ : MethodName)) hown (mvT hZ (hw _ (List.mem_of_getElem? (i := 52) rfl))) (mvT hZ (hw _ (List.mem_of_getElem? (i := 53) rfl))) (notFace_of_selects (args := #[]) (mvT hZ (hw _ (List.mem_of_getElem? (i := 55) rfl)))) (mvT hZ (hw _ (List.mem_of_getElem? (i := 55) rfl))) (mvT hZ (hw _ (List.mem_of_getElem? (i := 54) rfl))) (by decide) (own_backSync (W := 0) (rm10 l Z a0 hw [] b1 (own_c0 fi (0 : Int64)) T4.heap n0 Zs4 ⟨f7, ⟨_, f59⟩, ⟨_, f60⟩, ⟨_, f61⟩, f5, f62⟩ U4q gn_b1) hZ (hw _ (List.mem_of_getElem? (i := 56) rfl)) (hw _ (List.mem_of_getElem? (i := 54) rfl)) (hw _ (List.mem_of_getElem? (i := 2) rfl)) U4q (by decide) (by decide)) q63a q63c (g := (mkF m 77 #[.val (.int fi), .val (.int pv), .val (.long qv), .second, .val (.int av), .val (.int wv), .val (.int fl), .val (.ref b1), .val (.ref bc4), .val (.int (1 : Int32)), .val (.int (1 : Int32)), .val (.int (0 : Int32)), .val .null, .unset, .unset] [(.ref b1)])) rfl (by rw [hml]; rfl) (Steps.refl _) (argsL := []) (rest := []) (lenOf own_pd10 rfl) rfl (by show 2 * 0 + _ ≤ _; exact Nat.le_of_eq rfl) (hb hby at_77) (fun _ _ => ⟨rfl, e6, (by decide : 2 + 1 ≤ _), (by decide : 10 + 3 ≤ _)⟩)
      dsimp only [Pt.U, Pt.locs, Pt.cells, Pt.slots] at X63 l63 y63 z63 st63 hQ63
      subst l63 y63 z63
      obtain ⟨bh63, rfl, N63q, K63q, U63q, gz63, P63, H63⟩ := hQ63
      have lt_b1_bh63 : b1 < bh63 := Nat.lt_of_lt_of_le f7.lt gz63
      have lt_bc4_bh63 : bc4 < bh63 := Nat.lt_of_lt_of_le Fx4.lt gz63
      have gn_bh63 : n0 ≤ bh63 := Nat.le_trans Zs4 gz63
      have Zs63 : n0 ≤ T63.heap.size := Nat.le_trans Zs4 K63q.1
      have N63 := Fr.app N6 N63q
      obtain ⟨E_k63, ⟨ztk63, Ftk63⟩, ⟨zsk63, Fsk63⟩, ⟨zck63, Fck63⟩, Fnk63, Fhk63⟩ := id P63
      obtain ⟨E_l63, F0l63, Fal63, ⟨zol63, Fol63⟩⟩ := id H63
      refine Go.tr st63 ?_
      show Go p e below _ (T63.setTop (mkF m 80 #[.val (.int fi), .val (.int pv), .val (.long qv), .second, .val (.int av), .val (.int wv), .val (.int fl), .val (.ref b1), .val (.ref bc4), .val (.int (1 : Int32)), .val (.int (1 : Int32)), .val (.int (0 : Int32)), .val .null, .unset, .unset] [(.ref bh63)]))
      refine Go.st (fun _ kt => XS.astore X63.here hx rfl (hb hby at_80) rfl rfl (l' := #[.val (.int fi), .val (.int pv), .val (.long qv), .second, .val (.int av), .val (.int wv), .val (.int fl), .val (.ref b1), .val (.ref bc4), .val (.int (1 : Int32)), .val (.int (1 : Int32)), .val (.int (0 : Int32)), .val (.ref bh63), .unset, .unset]) rfl kt) ?_
      show Go p e below _ (T63.setTop (mkF m 82 #[.val (.int fi), .val (.int pv), .val (.long qv), .second, .val (.int av), .val (.int wv), .val (.int fl), .val (.ref b1), .val (.ref bc4), .val (.int (1 : Int32)), .val (.int (1 : Int32)), .val (.int (0 : Int32)), .val (.ref bh63), .unset, .unset] []))
      refine Go.st (fun _ kt => XS.aload X63.here hx rfl (hb hby at_82) rfl rfl kt) ?_
      show Go p e below _ (T63.setTop (mkF m 84 #[.val (.int fi), .val (.int pv), .val (.long qv), .second, .val (.int av), .val (.int wv), .val (.int fl), .val (.ref b1), .val (.ref bc4), .val (.int (1 : Int32)), .val (.int (1 : Int32)), .val (.int (0 : Int32)), .val (.ref bh63), .unset, .unset] [(.ref b1)]))
      refine Go.st (fun _ kt => XS.iloadN X63.here hx rfl (hb hby at_84) rfl kt) ?_
      show Go p e below _ (T63.setTop (mkF m 85 #[.val (.int fi), .val (.int pv), .val (.long qv), .second, .val (.int av), .val (.int wv), .val (.int fl), .val (.ref b1), .val (.ref bc4), .val (.int (1 : Int32)), .val (.int (1 : Int32)), .val (.int (0 : Int32)), .val (.ref bh63), .unset, .unset] [(.int pv), (.ref b1)]))
      obtain ⟨cq64, kq64, q64a, q64b, q64c⟩ := isOf hZ rfl E_k63
      obtain ⟨_, _, ⟨T64, L64, k64, n64⟩, -, X64, ⟨Lc64, hQ64, l64, y64, z64⟩, st64⟩ := X63.virtualBack hx (y := (⟨"com/example/manyhands/manyhands/crowd/Totals", "addTasks", "(I)V"⟩ : MethodName)) (z := (⟨"com/example/manyhands/manyhands/crowd/Totals", "addTasks", "(I)V"⟩ : MethodName)) hown (mvT hZ (hw _ (List.mem_of_getElem? (i := 9) rfl))) (mvT hZ (hw _ (List.mem_of_getElem? (i := 10) rfl))) (notFace_of_selects (args := #[]) (mvT hZ (hw _ (List.mem_of_getElem? (i := 12) rfl)))) (mvT hZ (hw _ (List.mem_of_getElem? (i := 12) rfl))) (mvT hZ (hw _ (List.mem_of_getElem? (i := 11) rfl))) (by decide) (own_backSync (W := 0) (rm3 l Z a0 hw [] b1 pv (own_c0 fi (0 : Int64)) (.ref bh63) T63.heap n0 Zs63 ⟨E_k63, ⟨_, Ftk63⟩, ⟨_, Fsk63⟩, ⟨_, Fck63⟩, Fnk63, Fhk63⟩ U63q gn_b1) hZ (hw _ (List.mem_of_getElem? (i := 13) rfl)) (hw _ (List.mem_of_getElem? (i := 11) rfl)) (hw _ (List.mem_of_getElem? (i := 2) rfl)) U63q (by decide) (by decide)) q64a q64c (g := (mkF m 85 #[.val (.int fi), .val (.int pv), .val (.long qv), .second, .val (.int av), .val (.int wv), .val (.int fl), .val (.ref b1), .val (.ref bc4), .val (.int (1 : Int32)), .val (.int (1 : Int32)), .val (.int (0 : Int32)), .val (.ref bh63), .unset, .unset] [(.int pv), (.ref b1)])) rfl (by rw [hml]; rfl) (Steps.refl _) (argsL := [(.int pv)]) (rest := []) (lenOf own_pd6 rfl) rfl (by show 2 * 0 + _ ≤ _; exact Nat.le_of_eq rfl) (hb hby at_85) (fun _ _ => ⟨rfl, rfl, (by decide : 3 + 0 ≤ _), (by decide : 13 + 0 ≤ _)⟩)
      dsimp only [Pt.U, Pt.locs, Pt.cells, Pt.slots] at X64 l64 y64 z64 st64 hQ64
      subst l64 y64 z64
      obtain ⟨rfl, N64q, K64q, U64q, P64⟩ := hQ64
      have Zs64 : n0 ≤ T64.heap.size := Nat.le_trans Zs63 K64q.1
      have N64 := Fr.app N63 N64q
      obtain ⟨E_k64, ⟨ztk64, Ftk64⟩, ⟨zsk64, Fsk64⟩, ⟨zck64, Fck64⟩, Fnk64, Fhk64⟩ := id P64
      refine Go.tr st64 ?_
      show Go p e below _ (T64.setTop (mkF m 88 #[.val (.int fi), .val (.int pv), .val (.long qv), .second, .val (.int av), .val (.int wv), .val (.int fl), .val (.ref b1), .val (.ref bc4), .val (.int (1 : Int32)), .val (.int (1 : Int32)), .val (.int (0 : Int32)), .val (.ref bh63), .unset, .unset] []))
      refine Go.st (fun _ kt => XS.aload X64.here hx rfl (hb hby at_88) rfl rfl kt) ?_
      show Go p e below _ (T64.setTop (mkF m 90 #[.val (.int fi), .val (.int pv), .val (.long qv), .second, .val (.int av), .val (.int wv), .val (.int fl), .val (.ref b1), .val (.ref bc4), .val (.int (1 : Int32)), .val (.int (1 : Int32)), .val (.int (0 : Int32)), .val (.ref bh63), .unset, .unset] [(.ref b1)]))
      refine Go.st (fun _ kt => XS.iload X64.here hx rfl (hb hby at_90) rfl kt) ?_
      show Go p e below _ (T64.setTop (mkF m 92 #[.val (.int fi), .val (.int pv), .val (.long qv), .second, .val (.int av), .val (.int wv), .val (.int fl), .val (.ref b1), .val (.ref bc4), .val (.int (1 : Int32)), .val (.int (1 : Int32)), .val (.int (0 : Int32)), .val (.ref bh63), .unset, .unset] [(.int av), (.ref b1)]))
      refine Go.st (fun _ kt => XS.iload X64.here hx rfl (hb hby at_92) rfl kt) ?_
      show Go p e below _ (T64.setTop (mkF m 94 #[.val (.int fi), .val (.int pv), .val (.long qv), .second, .val (.int av), .val (.int wv), .val (.int fl), .val (.ref b1), .val (.ref bc4), .val (.int (1 : Int32)), .val (.int (1 : Int32)), .val (.int (0 : Int32)), .val (.ref bh63), .unset, .unset] [(.int wv), (.int av), (.ref b1)]))
      have f65 := (E_l63.keep K64q)
      have f66 := (F0l63.keep K64q (ninS (Nat.ne_of_gt lt_b1_bh63) nin0))
      have f67 := (Fal63.keep K64q (ninS (Nat.ne_of_gt lt_b1_bh63) nin0))
      have f68 := (Fol63.keep K64q (ninS (Nat.ne_of_gt lt_b1_bh63) nin0))
      obtain ⟨cq69, kq69, q69a, q69b, q69c⟩ := isOf hZ rfl E_k64
      obtain ⟨_, _, ⟨T69, L69, k69, n69⟩, -, X69, ⟨Lc69, hQ69, l69, y69, z69⟩, st69⟩ := X64.virtualBack hx (y := (⟨"com/example/manyhands/manyhands/crowd/Totals", "addAnswers", "(II)V"⟩ : MethodName)) (z := (⟨"com/example/manyhands/manyhands/crowd/Totals", "addAnswers", "(II)V"⟩ : MethodName)) hown (mvT hZ (hw _ (List.mem_of_getElem? (i := 36) rfl))) (mvT hZ (hw _ (List.mem_of_getElem? (i := 37) rfl))) (notFace_of_selects (args := #[]) (mvT hZ (hw _ (List.mem_of_getElem? (i := 39) rfl)))) (mvT hZ (hw _ (List.mem_of_getElem? (i := 39) rfl))) (mvT hZ (hw _ (List.mem_of_getElem? (i := 38) rfl))) (by decide) (own_backSync (W := 0) (rm7h l Z a0 hw [] b1 av wv bh63 (own_c0 pv (own_c0 fi (0 : Int64))) (0 : Int64) T64.heap n0 Zs64 ⟨E_k64, ⟨_, Ftk64⟩, ⟨_, Fsk64⟩, ⟨_, Fck64⟩, Fnk64, Fhk64⟩ ⟨f65, f66, f67, ⟨_, f68⟩⟩ U64q gn_b1 gn_bh63 (Nat.ne_of_lt lt_b1_bh63)) hZ (hw _ (List.mem_of_getElem? (i := 40) rfl)) (hw _ (List.mem_of_getElem? (i := 38) rfl)) (hw _ (List.mem_of_getElem? (i := 2) rfl)) U64q (by decide) (by decide)) q69a q69c (g := (mkF m 94 #[.val (.int fi), .val (.int pv), .val (.long qv), .second, .val (.int av), .val (.int wv), .val (.int fl), .val (.ref b1), .val (.ref bc4), .val (.int (1 : Int32)), .val (.int (1 : Int32)), .val (.int (0 : Int32)), .val (.ref bh63), .unset, .unset] [(.int wv), (.int av), (.ref b1)])) rfl (by rw [hml]; rfl) (Steps.refl _) (argsL := [(.int av), (.int wv)]) (rest := []) (lenOf own_pd9 rfl) rfl (by show 2 * 0 + _ ≤ _; exact Nat.le_of_eq rfl) (hb hby at_94) (fun _ _ => ⟨rfl, rfl, (by decide : 3 + 0 ≤ _), (by decide : 13 + 0 ≤ _)⟩)
      dsimp only [Pt.U, Pt.locs, Pt.cells, Pt.slots] at X69 l69 y69 z69 st69 hQ69
      subst l69 y69 z69
      obtain ⟨rfl, N69q, K69q, U69q, P69⟩ := hQ69
      have Zs69 : n0 ≤ T69.heap.size := Nat.le_trans Zs64 K69q.1
      have N69 := Fr.app N64 N69q
      obtain ⟨E_l69, F0l69, Fal69, ⟨zol69, Fol69⟩⟩ := id P69
      refine Go.tr st69 ?_
      show Go p e below _ (T69.setTop (mkF m 97 #[.val (.int fi), .val (.int pv), .val (.long qv), .second, .val (.int av), .val (.int wv), .val (.int fl), .val (.ref b1), .val (.ref bc4), .val (.int (1 : Int32)), .val (.int (1 : Int32)), .val (.int (0 : Int32)), .val (.ref bh63), .unset, .unset] []))
      refine Go.st (fun _ kt => XS.aload X69.here hx rfl (hb hby at_97) rfl rfl kt) ?_
      show Go p e below _ (T69.setTop (mkF m 99 #[.val (.int fi), .val (.int pv), .val (.long qv), .second, .val (.int av), .val (.int wv), .val (.int fl), .val (.ref b1), .val (.ref bc4), .val (.int (1 : Int32)), .val (.int (1 : Int32)), .val (.int (0 : Int32)), .val (.ref bh63), .unset, .unset] [(.ref b1)]))
      refine Go.st (fun _ kt => XS.lloadN X69.here hx rfl (hb hby at_99) rfl kt) ?_
      show Go p e below _ (T69.setTop (mkF m 100 #[.val (.int fi), .val (.int pv), .val (.long qv), .second, .val (.int av), .val (.int wv), .val (.int fl), .val (.ref b1), .val (.ref bc4), .val (.int (1 : Int32)), .val (.int (1 : Int32)), .val (.int (0 : Int32)), .val (.ref bh63), .unset, .unset] [(.long qv), (.ref b1)]))
      refine Go.st (fun _ kt => XS.lconst X69.here hx rfl (hb hby at_100) kt) ?_
      show Go p e below _ (T69.setTop (mkF m 101 #[.val (.int fi), .val (.int pv), .val (.long qv), .second, .val (.int av), .val (.int wv), .val (.int fl), .val (.ref b1), .val (.ref bc4), .val (.int (1 : Int32)), .val (.int (1 : Int32)), .val (.int (0 : Int32)), .val (.ref bh63), .unset, .unset] [(.long (0 : Int64)), (.long qv), (.ref b1)]))
      have f70 := (E_k64.keep K69q)
      have f71 := (Ftk64.keep K69q (ninS (Nat.ne_of_lt lt_b1_bh63) nin0))
      have f72 := (Fsk64.keep K69q (ninS (Nat.ne_of_lt lt_b1_bh63) nin0))
      have f73 := (Fck64.keep K69q (ninS (Nat.ne_of_lt lt_b1_bh63) nin0))
      have f74 := (Fnk64.keep K69q (ninS (Nat.ne_of_lt lt_b1_bh63) nin0))
      have f75 := (Fhk64.keep K69q (ninS (Nat.ne_of_lt lt_b1_bh63) nin0))
      obtain ⟨cq76, kq76, q76a, q76b, q76c⟩ := isOf hZ rfl f70
      obtain ⟨_, _, ⟨T76, L76, k76, n76⟩, -, X76, ⟨Lc76, hQ76, l76, y76, z76⟩, st76⟩ := X69.virtualBack hx (y := (⟨"com/example/manyhands/manyhands/crowd/Totals", "addKeptEarlier", "(JJ)V"⟩ : MethodName)) (z := (⟨"com/example/manyhands/manyhands/crowd/Totals", "addKeptEarlier", "(JJ)V"⟩ : MethodName)) hown (mvT hZ (hw _ (List.mem_of_getElem? (i := 47) rfl))) (mvT hZ (hw _ (List.mem_of_getElem? (i := 48) rfl))) (notFace_of_selects (args := #[]) (mvT hZ (hw _ (List.mem_of_getElem? (i := 50) rfl)))) (mvT hZ (hw _ (List.mem_of_getElem? (i := 50) rfl))) (mvT hZ (hw _ (List.mem_of_getElem? (i := 49) rfl))) (by decide) (own_backSync (W := 0) (rm9 l Z a0 hw [] b1 qv (0 : Int64) (own_c0 pv (own_c0 fi (0 : Int64))) (.ref bh63) T69.heap n0 Zs69 ⟨f70, ⟨_, f71⟩, ⟨_, f72⟩, ⟨_, f73⟩, f74, f75⟩ U69q gn_b1) hZ (hw _ (List.mem_of_getElem? (i := 51) rfl)) (hw _ (List.mem_of_getElem? (i := 49) rfl)) (hw _ (List.mem_of_getElem? (i := 2) rfl)) U69q (by decide) (by decide)) q76a q76c (g := (mkF m 101 #[.val (.int fi), .val (.int pv), .val (.long qv), .second, .val (.int av), .val (.int wv), .val (.int fl), .val (.ref b1), .val (.ref bc4), .val (.int (1 : Int32)), .val (.int (1 : Int32)), .val (.int (0 : Int32)), .val (.ref bh63), .unset, .unset] [(.long (0 : Int64)), (.long qv), (.ref b1)])) rfl (by rw [hml]; rfl) (Steps.refl _) (argsL := [(.long qv), (.long (0 : Int64))]) (rest := []) (lenOf own_pd2 rfl) rfl (by show 2 * 0 + _ ≤ _; exact Nat.le_of_eq rfl) (hb hby at_101) (fun _ _ => ⟨rfl, rfl, (by decide : 3 + 0 ≤ _), (by decide : 13 + 0 ≤ _)⟩)
      dsimp only [Pt.U, Pt.locs, Pt.cells, Pt.slots] at X76 l76 y76 z76 st76 hQ76
      subst l76 y76 z76
      obtain ⟨rfl, N76q, K76q, U76q, P76⟩ := hQ76
      have Zs76 : n0 ≤ T76.heap.size := Nat.le_trans Zs69 K76q.1
      have N76 := Fr.app N69 N76q
      obtain ⟨E_k76, ⟨ztk76, Ftk76⟩, ⟨zsk76, Fsk76⟩, ⟨zck76, Fck76⟩, Fnk76, Fhk76⟩ := id P76
      refine Go.tr st76 ?_
      show Go p e below _ (T76.setTop (mkF m 104 #[.val (.int fi), .val (.int pv), .val (.long qv), .second, .val (.int av), .val (.int wv), .val (.int fl), .val (.ref b1), .val (.ref bc4), .val (.int (1 : Int32)), .val (.int (1 : Int32)), .val (.int (0 : Int32)), .val (.ref bh63), .unset, .unset] []))
      refine Go.st (fun _ kt => XS.iload X76.here hx rfl (hb hby at_104) rfl kt) ?_
      show Go p e below _ (T76.setTop (mkF m 106 #[.val (.int fi), .val (.int pv), .val (.long qv), .second, .val (.int av), .val (.int wv), .val (.int fl), .val (.ref b1), .val (.ref bc4), .val (.int (1 : Int32)), .val (.int (1 : Int32)), .val (.int (0 : Int32)), .val (.ref bh63), .unset, .unset] [(.int (1 : Int32))]))
      refine Go.st (fun _ kt => XS.ifNo X76.here hx rfl (hb hby at_106) rfl ((if0 _ _).trans (feq (by decide : ¬ ((1 : Int32) = (0 : Int32)))).1) kt) ?_
      show Go p e below _ (T76.setTop (mkF m 109 #[.val (.int fi), .val (.int pv), .val (.long qv), .second, .val (.int av), .val (.int wv), .val (.int fl), .val (.ref b1), .val (.ref bc4), .val (.int (1 : Int32)), .val (.int (1 : Int32)), .val (.int (0 : Int32)), .val (.ref bh63), .unset, .unset] []))
      refine Go.st (fun _ kt => XS.iload X76.here hx rfl (hb hby at_109) rfl kt) ?_
      show Go p e below _ (T76.setTop (mkF m 111 #[.val (.int fi), .val (.int pv), .val (.long qv), .second, .val (.int av), .val (.int wv), .val (.int fl), .val (.ref b1), .val (.ref bc4), .val (.int (1 : Int32)), .val (.int (1 : Int32)), .val (.int (0 : Int32)), .val (.ref bh63), .unset, .unset] [(.int (0 : Int32))]))
      refine Go.st (fun _ kt => XS.ifYes X76.here hx rfl (pc0 := 111) (pc' := 119) rfl (hb hby at_111) rfl ((if0 _ _).trans (teq (by decide : (0 : Int32) = (0 : Int32))).1) (by decide) (by decide) kt) ?_
      show Go p e below _ (T76.setTop (mkF m 119 #[.val (.int fi), .val (.int pv), .val (.long qv), .second, .val (.int av), .val (.int wv), .val (.int fl), .val (.ref b1), .val (.ref bc4), .val (.int (1 : Int32)), .val (.int (1 : Int32)), .val (.int (0 : Int32)), .val (.ref bh63), .unset, .unset] []))
      refine Go.st (fun _ kt => XS.aload X76.here hx rfl (hb hby at_119) rfl rfl kt) ?_
      show Go p e below _ (T76.setTop (mkF m 121 #[.val (.int fi), .val (.int pv), .val (.long qv), .second, .val (.int av), .val (.int wv), .val (.int fl), .val (.ref b1), .val (.ref bc4), .val (.int (1 : Int32)), .val (.int (1 : Int32)), .val (.int (0 : Int32)), .val (.ref bh63), .unset, .unset] [(.ref bh63)]))
      have f77 := (E_l69.keep K76q)
      have f78 := (F0l69.keep K76q (ninS (Nat.ne_of_gt lt_b1_bh63) nin0))
      have f79 := (Fal69.keep K76q (ninS (Nat.ne_of_gt lt_b1_bh63) nin0))
      have f80 := (Fol69.keep K76q (ninS (Nat.ne_of_gt lt_b1_bh63) nin0))
      obtain ⟨cq81, kq81, q81a, q81b, q81c⟩ := isOf hZ rfl f77
      obtain ⟨_, _, ⟨T81, L81, k81, n81⟩, -, X81, ⟨Lc81, hQ81, l81, y81, z81⟩, st81⟩ := X76.virtualBack hx (y := (⟨"com/example/manyhands/manyhands/crowd/Totals$Held", "close", "()V"⟩ : MethodName)) (z := (⟨"com/example/manyhands/manyhands/crowd/Totals$Held", "close", "()V"⟩ : MethodName)) hown (mvT hZ (hw _ (List.mem_of_getElem? (i := 78) rfl))) (mvT hZ (hw _ (List.mem_of_getElem? (i := 79) rfl))) (notFace_of_selects (args := #[]) (mvT hZ (hw _ (List.mem_of_getElem? (i := 81) rfl)))) (mvT hZ (hw _ (List.mem_of_getElem? (i := 81) rfl))) (mvT hZ (hw _ (List.mem_of_getElem? (i := 80) rfl))) (by decide) (backOfWith (W := 0) (rm13 l Z a0 hw [] bh63 b1 (own_c1 qv (own_c0 pv (own_c0 fi (0 : Int64)))) (.ref bh63) ((0 : Int64) + av.toInt64) T76.heap n0 Zs76 ⟨f77, f78, f79, ⟨_, f80⟩⟩ ⟨E_k76, ⟨_, Ftk76⟩, ⟨_, Fsk76⟩, ⟨_, Fck76⟩, Fnk76, Fhk76⟩ U76q gn_bh63 gn_b1 (Nat.ne_of_lt lt_b1_bh63)) hZ (hw _ (List.mem_of_getElem? (i := 82) rfl)) (hw _ (List.mem_of_getElem? (i := 59) rfl)) (by decide) (by decide)) q81a q81c (g := (mkF m 121 #[.val (.int fi), .val (.int pv), .val (.long qv), .second, .val (.int av), .val (.int wv), .val (.int fl), .val (.ref b1), .val (.ref bc4), .val (.int (1 : Int32)), .val (.int (1 : Int32)), .val (.int (0 : Int32)), .val (.ref bh63), .unset, .unset] [(.ref bh63)])) rfl (by rw [hml]; rfl) (Steps.refl _) (argsL := []) (rest := []) (lenOf own_pd5 rfl) rfl (by show 2 * 0 + _ ≤ _; exact Nat.le_of_eq rfl) (hb hby at_121) (fun _ _ => ⟨rfl, rfl, (by decide : 3 + 0 ≤ _), (by decide : 13 + 0 ≤ _)⟩)
      dsimp only [Pt.U, Pt.locs, Pt.cells, Pt.slots] at X81 l81 y81 z81 st81 hQ81
      subst l81 y81 z81
      obtain ⟨rfl, N81q, K81q, U81q, P81⟩ := hQ81
      have Zs81 : n0 ≤ T81.heap.size := Nat.le_trans Zs76 K81q.1
      have N81 := Fr.app N76 N81q
      obtain ⟨E_k81, ⟨ztk81, Ftk81⟩, ⟨zsk81, Fsk81⟩, ⟨zck81, Fck81⟩, Fnk81, Fhk81⟩ := id P81
      refine Go.tr st81 ?_
      show Go p e below _ (T81.setTop (mkF m 124 #[.val (.int fi), .val (.int pv), .val (.long qv), .second, .val (.int av), .val (.int wv), .val (.int fl), .val (.ref b1), .val (.ref bc4), .val (.int (1 : Int32)), .val (.int (1 : Int32)), .val (.int (0 : Int32)), .val (.ref bh63), .unset, .unset] []))
      refine Go.st (fun _ kt => XS.iload X81.here hx rfl (hb hby at_124) rfl kt) ?_
      show Go p e below _ (T81.setTop (mkF m 126 #[.val (.int fi), .val (.int pv), .val (.long qv), .second, .val (.int av), .val (.int wv), .val (.int fl), .val (.ref b1), .val (.ref bc4), .val (.int (1 : Int32)), .val (.int (1 : Int32)), .val (.int (0 : Int32)), .val (.ref bh63), .unset, .unset] [(.int av)]))
      by_cases hc126_82 : av = (0 : Int32)
      · refine Go.st (fun _ kt => XS.ifYes X81.here hx rfl (pc0 := 126) (pc' := 143) rfl (hb hby at_126) rfl ((if0 _ _).trans (teq hc126_82).1) (by decide) (by decide) kt) ?_
        show Go p e below _ (T81.setTop (mkF m 143 #[.val (.int fi), .val (.int pv), .val (.long qv), .second, .val (.int av), .val (.int wv), .val (.int fl), .val (.ref b1), .val (.ref bc4), .val (.int (1 : Int32)), .val (.int (1 : Int32)), .val (.int (0 : Int32)), .val (.ref bh63), .unset, .unset] []))
        refine Go.st (fun _ kt => XS.iconst X81.here hx rfl (hb hby at_143) kt) ?_
        show Go p e below _ (T81.setTop (mkF m 144 #[.val (.int fi), .val (.int pv), .val (.long qv), .second, .val (.int av), .val (.int wv), .val (.int fl), .val (.ref b1), .val (.ref bc4), .val (.int (1 : Int32)), .val (.int (1 : Int32)), .val (.int (0 : Int32)), .val (.ref bh63), .unset, .unset] [(.int (0 : Int32))]))
        refine Go.st (fun _ kt => XS.istore X81.here hx rfl (hb hby at_144) rfl (l' := #[.val (.int fi), .val (.int pv), .val (.long qv), .second, .val (.int av), .val (.int wv), .val (.int fl), .val (.ref b1), .val (.ref bc4), .val (.int (1 : Int32)), .val (.int (1 : Int32)), .val (.int (0 : Int32)), .val (.ref bh63), .val (.int (0 : Int32)), .unset]) rfl kt) ?_
        show Go p e below _ (T81.setTop (mkF m 146 #[.val (.int fi), .val (.int pv), .val (.long qv), .second, .val (.int av), .val (.int wv), .val (.int fl), .val (.ref b1), .val (.ref bc4), .val (.int (1 : Int32)), .val (.int (1 : Int32)), .val (.int (0 : Int32)), .val (.ref bh63), .val (.int (0 : Int32)), .unset] []))
        refine Go.st (fun _ kt => XS.iloadN X81.here hx rfl (hb hby at_146) rfl kt) ?_
        show Go p e below _ (T81.setTop (mkF m 147 #[.val (.int fi), .val (.int pv), .val (.long qv), .second, .val (.int av), .val (.int wv), .val (.int fl), .val (.ref b1), .val (.ref bc4), .val (.int (1 : Int32)), .val (.int (1 : Int32)), .val (.int (0 : Int32)), .val (.ref bh63), .val (.int (0 : Int32)), .unset] [(.int pv)]))
        by_cases hc147_83 : pv = (0 : Int32)
        · refine Go.st (fun _ kt => XS.ifNo X81.here hx rfl (hb hby at_147) rfl ((if0 _ _).trans (teq hc147_83).2) kt) ?_
          show Go p e below _ (T81.setTop (mkF m 150 #[.val (.int fi), .val (.int pv), .val (.long qv), .second, .val (.int av), .val (.int wv), .val (.int fl), .val (.ref b1), .val (.ref bc4), .val (.int (1 : Int32)), .val (.int (1 : Int32)), .val (.int (0 : Int32)), .val (.ref bh63), .val (.int (0 : Int32)), .unset] []))
          refine Go.st (fun _ kt => XS.lloadN X81.here hx rfl (hb hby at_150) rfl kt) ?_
          show Go p e below _ (T81.setTop (mkF m 151 #[.val (.int fi), .val (.int pv), .val (.long qv), .second, .val (.int av), .val (.int wv), .val (.int fl), .val (.ref b1), .val (.ref bc4), .val (.int (1 : Int32)), .val (.int (1 : Int32)), .val (.int (0 : Int32)), .val (.ref bh63), .val (.int (0 : Int32)), .unset] [(.long qv)]))
          refine Go.st (fun _ kt => XS.lconst X81.here hx rfl (hb hby at_151) kt) ?_
          show Go p e below _ (T81.setTop (mkF m 152 #[.val (.int fi), .val (.int pv), .val (.long qv), .second, .val (.int av), .val (.int wv), .val (.int fl), .val (.ref b1), .val (.ref bc4), .val (.int (1 : Int32)), .val (.int (1 : Int32)), .val (.int (0 : Int32)), .val (.ref bh63), .val (.int (0 : Int32)), .unset] [(.long (0 : Int64)), (.long qv)]))
          refine Go.st (fun _ kt => XS.lcmp X81.here hx rfl (hb hby at_152) rfl kt) ?_
          show Go p e below _ (T81.setTop (mkF m 153 #[.val (.int fi), .val (.int pv), .val (.long qv), .second, .val (.int av), .val (.int wv), .val (.int fl), .val (.ref b1), .val (.ref bc4), .val (.int (1 : Int32)), .val (.int (1 : Int32)), .val (.int (0 : Int32)), .val (.ref bh63), .val (.int (0 : Int32)), .unset] [(.int (lcmpW qv (0 : Int64)))]))
          by_cases hc153_84 : (lcmpW qv (0 : Int64)) = (0 : Int32)
          · refine Go.st (fun _ kt => XS.ifNo X81.here hx rfl (hb hby at_153) rfl ((if0 _ _).trans (teq hc153_84).2) kt) ?_
            show Go p e below _ (T81.setTop (mkF m 156 #[.val (.int fi), .val (.int pv), .val (.long qv), .second, .val (.int av), .val (.int wv), .val (.int fl), .val (.ref b1), .val (.ref bc4), .val (.int (1 : Int32)), .val (.int (1 : Int32)), .val (.int (0 : Int32)), .val (.ref bh63), .val (.int (0 : Int32)), .unset] []))
            refine Go.st (fun _ kt => XS.iload X81.here hx rfl (hb hby at_156) rfl kt) ?_
            show Go p e below _ (T81.setTop (mkF m 158 #[.val (.int fi), .val (.int pv), .val (.long qv), .second, .val (.int av), .val (.int wv), .val (.int fl), .val (.ref b1), .val (.ref bc4), .val (.int (1 : Int32)), .val (.int (1 : Int32)), .val (.int (0 : Int32)), .val (.ref bh63), .val (.int (0 : Int32)), .unset] [(.int (0 : Int32))]))
            refine Go.st (fun _ kt => XS.ifYes X81.here hx rfl (pc0 := 158) (pc' := 165) rfl (hb hby at_158) rfl ((if0 _ _).trans (teq (by decide : (0 : Int32) = (0 : Int32))).1) (by decide) (by decide) kt) ?_
            show Go p e below _ (T81.setTop (mkF m 165 #[.val (.int fi), .val (.int pv), .val (.long qv), .second, .val (.int av), .val (.int wv), .val (.int fl), .val (.ref b1), .val (.ref bc4), .val (.int (1 : Int32)), .val (.int (1 : Int32)), .val (.int (0 : Int32)), .val (.ref bh63), .val (.int (0 : Int32)), .unset] []))
            refine Go.st (fun _ kt => XS.iconst X81.here hx rfl (hb hby at_165) kt) ?_
            show Go p e below _ (T81.setTop (mkF m 166 #[.val (.int fi), .val (.int pv), .val (.long qv), .second, .val (.int av), .val (.int wv), .val (.int fl), .val (.ref b1), .val (.ref bc4), .val (.int (1 : Int32)), .val (.int (1 : Int32)), .val (.int (0 : Int32)), .val (.ref bh63), .val (.int (0 : Int32)), .unset] [(.int (0 : Int32))]))
            refine Go.st (fun _ kt => XS.istore X81.here hx rfl (hb hby at_166) rfl (l' := #[.val (.int fi), .val (.int pv), .val (.long qv), .second, .val (.int av), .val (.int wv), .val (.int fl), .val (.ref b1), .val (.ref bc4), .val (.int (1 : Int32)), .val (.int (1 : Int32)), .val (.int (0 : Int32)), .val (.ref bh63), .val (.int (0 : Int32)), .val (.int (0 : Int32))]) rfl kt) ?_
            show Go p e below _ (T81.setTop (mkF m 168 #[.val (.int fi), .val (.int pv), .val (.long qv), .second, .val (.int av), .val (.int wv), .val (.int fl), .val (.ref b1), .val (.ref bc4), .val (.int (1 : Int32)), .val (.int (1 : Int32)), .val (.int (0 : Int32)), .val (.ref bh63), .val (.int (0 : Int32)), .val (.int (0 : Int32))] []))
            refine Go.st (fun _ kt => XS.iload X81.here hx rfl (hb hby at_168) rfl kt) ?_
            show Go p e below _ (T81.setTop (mkF m 170 #[.val (.int fi), .val (.int pv), .val (.long qv), .second, .val (.int av), .val (.int wv), .val (.int fl), .val (.ref b1), .val (.ref bc4), .val (.int (1 : Int32)), .val (.int (1 : Int32)), .val (.int (0 : Int32)), .val (.ref bh63), .val (.int (0 : Int32)), .val (.int (0 : Int32))] [(.int (1 : Int32))]))
            refine Go.st (fun _ kt => XS.ifNo X81.here hx rfl (hb hby at_170) rfl ((if0 _ _).trans (feq (by decide : ¬ ((1 : Int32) = (0 : Int32)))).1) kt) ?_
            show Go p e below _ (T81.setTop (mkF m 173 #[.val (.int fi), .val (.int pv), .val (.long qv), .second, .val (.int av), .val (.int wv), .val (.int fl), .val (.ref b1), .val (.ref bc4), .val (.int (1 : Int32)), .val (.int (1 : Int32)), .val (.int (0 : Int32)), .val (.ref bh63), .val (.int (0 : Int32)), .val (.int (0 : Int32))] []))
            refine Go.st (fun _ kt => XS.aload X81.here hx rfl (hb hby at_173) rfl rfl kt) ?_
            show Go p e below _ (T81.setTop (mkF m 175 #[.val (.int fi), .val (.int pv), .val (.long qv), .second, .val (.int av), .val (.int wv), .val (.int fl), .val (.ref b1), .val (.ref bc4), .val (.int (1 : Int32)), .val (.int (1 : Int32)), .val (.int (0 : Int32)), .val (.ref bh63), .val (.int (0 : Int32)), .val (.int (0 : Int32))] [(.ref b1)]))
            refine Go.st (fun _ kt => XS.aload X81.here hx rfl (hb hby at_175) rfl rfl kt) ?_
            show Go p e below _ (T81.setTop (mkF m 177 #[.val (.int fi), .val (.int pv), .val (.long qv), .second, .val (.int av), .val (.int wv), .val (.int fl), .val (.ref b1), .val (.ref bc4), .val (.int (1 : Int32)), .val (.int (1 : Int32)), .val (.int (0 : Int32)), .val (.ref bh63), .val (.int (0 : Int32)), .val (.int (0 : Int32))] [(.ref bc4), (.ref b1)]))
            have f85 := (((((Fx4.keep K63q (ninS (Nat.ne_of_gt lt_b1_bc4) nin0)).keep K64q (ninS (Nat.ne_of_gt lt_b1_bc4) nin0)).keep K69q (ninS (Nat.ne_of_lt lt_bc4_bh63) nin0)).keep K76q (ninS (Nat.ne_of_gt lt_b1_bc4) nin0)).keep K81q (ninS (Nat.ne_of_gt lt_b1_bc4) nin0))
            obtain ⟨cq86, kq86, q86a, q86b, q86c⟩ := isOf hZ rfl E_k81
            obtain ⟨_, _, ⟨T86, L86, k86, n86⟩, -, X86, ⟨Lc86, hQ86, l86, y86, z86⟩, st86⟩ := X81.virtualBack hx (y := (⟨"com/example/manyhands/manyhands/crowd/Totals", "countedSince", "(Lcom/example/manyhands/manyhands/crowd/Totals;)Z"⟩ : MethodName)) (z := (⟨"com/example/manyhands/manyhands/crowd/Totals", "countedSince", "(Lcom/example/manyhands/manyhands/crowd/Totals;)Z"⟩ : MethodName)) hown (mvT hZ (hw _ (List.mem_of_getElem? (i := 31) rfl))) (mvT hZ (hw _ (List.mem_of_getElem? (i := 32) rfl))) (notFace_of_selects (args := #[]) (mvT hZ (hw _ (List.mem_of_getElem? (i := 34) rfl)))) (mvT hZ (hw _ (List.mem_of_getElem? (i := 34) rfl))) (mvT hZ (hw _ (List.mem_of_getElem? (i := 33) rfl))) (by decide) (backOf (W := 0) (rm6e l Z a0 hw [] b1 bc4 (own_c1 qv (own_c0 pv (own_c0 fi (0 : Int64)))) (own_c0 fi (0 : Int64)) T81.heap n0 Zs81 Fnk81 f85 (own_eq2 _ hc147_83 ((lw_eq _ _).mp hc153_84))) hZ (hw _ (List.mem_of_getElem? (i := 35) rfl)) (hw _ (List.mem_of_getElem? (i := 2) rfl)) (by decide) (by decide)) q86a q86c (g := (mkF m 177 #[.val (.int fi), .val (.int pv), .val (.long qv), .second, .val (.int av), .val (.int wv), .val (.int fl), .val (.ref b1), .val (.ref bc4), .val (.int (1 : Int32)), .val (.int (1 : Int32)), .val (.int (0 : Int32)), .val (.ref bh63), .val (.int (0 : Int32)), .val (.int (0 : Int32))] [(.ref bc4), (.ref b1)])) rfl (by rw [hml]; rfl) (Steps.refl _) (argsL := [(.ref bc4)]) (rest := []) (lenOf own_pd8 rfl) rfl (by show 2 * 0 + _ ≤ _; exact Nat.le_of_eq rfl) (hb hby at_177) (fun _ _ => ⟨rfl, rfl, (by decide : 3 + 0 ≤ _), (by decide : 13 + 0 ≤ _)⟩)
            dsimp only [Pt.U, Pt.locs, Pt.cells, Pt.slots] at X86 l86 y86 z86 st86 hQ86
            subst l86 y86 z86
            obtain ⟨rfl, N86q, e86⟩ := hQ86
            have N86 := Fr.app N81 N86q
            refine Go.tr st86 ?_
            show Go p e below _ (T86.setTop (mkF m 180 #[.val (.int fi), .val (.int pv), .val (.long qv), .second, .val (.int av), .val (.int wv), .val (.int fl), .val (.ref b1), .val (.ref bc4), .val (.int (1 : Int32)), .val (.int (1 : Int32)), .val (.int (0 : Int32)), .val (.ref bh63), .val (.int (0 : Int32)), .val (.int (0 : Int32))] [(.int (0 : Int32))]))
            refine Go.st (fun _ kt => XS.iload X86.here hx rfl (hb hby at_180) rfl kt) ?_
            show Go p e below _ (T86.setTop (mkF m 182 #[.val (.int fi), .val (.int pv), .val (.long qv), .second, .val (.int av), .val (.int wv), .val (.int fl), .val (.ref b1), .val (.ref bc4), .val (.int (1 : Int32)), .val (.int (1 : Int32)), .val (.int (0 : Int32)), .val (.ref bh63), .val (.int (0 : Int32)), .val (.int (0 : Int32))] [(.int (0 : Int32)), (.int (0 : Int32))]))
            refine Go.st (fun _ kt => XS.icmpNo X86.here hx rfl (hb hby at_182) rfl (teq (by decide : (0 : Int32) = (0 : Int32))).2 kt) ?_
            show Go p e below _ (T86.setTop (mkF m 185 #[.val (.int fi), .val (.int pv), .val (.long qv), .second, .val (.int av), .val (.int wv), .val (.int fl), .val (.ref b1), .val (.ref bc4), .val (.int (1 : Int32)), .val (.int (1 : Int32)), .val (.int (0 : Int32)), .val (.ref bh63), .val (.int (0 : Int32)), .val (.int (0 : Int32))] []))
            refine Go.st (fun _ kt => XS.iconst X86.here hx rfl (hb hby at_185) kt) ?_
            show Go p e below _ (T86.setTop (mkF m 186 #[.val (.int fi), .val (.int pv), .val (.long qv), .second, .val (.int av), .val (.int wv), .val (.int fl), .val (.ref b1), .val (.ref bc4), .val (.int (1 : Int32)), .val (.int (1 : Int32)), .val (.int (0 : Int32)), .val (.ref bh63), .val (.int (0 : Int32)), .val (.int (0 : Int32))] [(.int (1 : Int32))]))
            refine Go.st (fun _ kt => XS.goto X86.here hx rfl (pc0 := 186) (pc' := 190) rfl (hb hby at_186) (by decide) (by decide) kt) ?_
            show Go p e below _ (T86.setTop (mkF m 190 #[.val (.int fi), .val (.int pv), .val (.long qv), .second, .val (.int av), .val (.int wv), .val (.int fl), .val (.ref b1), .val (.ref bc4), .val (.int (1 : Int32)), .val (.int (1 : Int32)), .val (.int (0 : Int32)), .val (.ref bh63), .val (.int (0 : Int32)), .val (.int (0 : Int32))] [(.int (1 : Int32))]))
            refine Go.retN X86 hx (t := .boolean) Bd.returns (by simp) (BodyLoose.notSynchronized Bd) (hb hby at_190) (Q := (Q_rm0 Z fi pv qv av wv fl h0 n0)) (by decide) (by decide) ?_
            show (Q_rm0 Z fi pv qv av wv fl h0 n0) _ T86.heap _
            rw [e86]
            exact ⟨rfl, N86⟩
          · refine Go.st (fun _ kt => XS.ifYes X81.here hx rfl (pc0 := 153) (pc' := 161) rfl (hb hby at_153) rfl ((if0 _ _).trans (feq hc153_84).2) (by decide) (by decide) kt) ?_
            show Go p e below _ (T81.setTop (mkF m 161 #[.val (.int fi), .val (.int pv), .val (.long qv), .second, .val (.int av), .val (.int wv), .val (.int fl), .val (.ref b1), .val (.ref bc4), .val (.int (1 : Int32)), .val (.int (1 : Int32)), .val (.int (0 : Int32)), .val (.ref bh63), .val (.int (0 : Int32)), .unset] []))
            refine Go.st (fun _ kt => XS.iconst X81.here hx rfl (hb hby at_161) kt) ?_
            show Go p e below _ (T81.setTop (mkF m 162 #[.val (.int fi), .val (.int pv), .val (.long qv), .second, .val (.int av), .val (.int wv), .val (.int fl), .val (.ref b1), .val (.ref bc4), .val (.int (1 : Int32)), .val (.int (1 : Int32)), .val (.int (0 : Int32)), .val (.ref bh63), .val (.int (0 : Int32)), .unset] [(.int (1 : Int32))]))
            refine Go.st (fun _ kt => XS.goto X81.here hx rfl (pc0 := 162) (pc' := 166) rfl (hb hby at_162) (by decide) (by decide) kt) ?_
            show Go p e below _ (T81.setTop (mkF m 166 #[.val (.int fi), .val (.int pv), .val (.long qv), .second, .val (.int av), .val (.int wv), .val (.int fl), .val (.ref b1), .val (.ref bc4), .val (.int (1 : Int32)), .val (.int (1 : Int32)), .val (.int (0 : Int32)), .val (.ref bh63), .val (.int (0 : Int32)), .unset] [(.int (1 : Int32))]))
            refine Go.st (fun _ kt => XS.istore X81.here hx rfl (hb hby at_166) rfl (l' := #[.val (.int fi), .val (.int pv), .val (.long qv), .second, .val (.int av), .val (.int wv), .val (.int fl), .val (.ref b1), .val (.ref bc4), .val (.int (1 : Int32)), .val (.int (1 : Int32)), .val (.int (0 : Int32)), .val (.ref bh63), .val (.int (0 : Int32)), .val (.int (1 : Int32))]) rfl kt) ?_
            show Go p e below _ (T81.setTop (mkF m 168 #[.val (.int fi), .val (.int pv), .val (.long qv), .second, .val (.int av), .val (.int wv), .val (.int fl), .val (.ref b1), .val (.ref bc4), .val (.int (1 : Int32)), .val (.int (1 : Int32)), .val (.int (0 : Int32)), .val (.ref bh63), .val (.int (0 : Int32)), .val (.int (1 : Int32))] []))
            refine Go.st (fun _ kt => XS.iload X81.here hx rfl (hb hby at_168) rfl kt) ?_
            show Go p e below _ (T81.setTop (mkF m 170 #[.val (.int fi), .val (.int pv), .val (.long qv), .second, .val (.int av), .val (.int wv), .val (.int fl), .val (.ref b1), .val (.ref bc4), .val (.int (1 : Int32)), .val (.int (1 : Int32)), .val (.int (0 : Int32)), .val (.ref bh63), .val (.int (0 : Int32)), .val (.int (1 : Int32))] [(.int (1 : Int32))]))
            refine Go.st (fun _ kt => XS.ifNo X81.here hx rfl (hb hby at_170) rfl ((if0 _ _).trans (feq (by decide : ¬ ((1 : Int32) = (0 : Int32)))).1) kt) ?_
            show Go p e below _ (T81.setTop (mkF m 173 #[.val (.int fi), .val (.int pv), .val (.long qv), .second, .val (.int av), .val (.int wv), .val (.int fl), .val (.ref b1), .val (.ref bc4), .val (.int (1 : Int32)), .val (.int (1 : Int32)), .val (.int (0 : Int32)), .val (.ref bh63), .val (.int (0 : Int32)), .val (.int (1 : Int32))] []))
            refine Go.st (fun _ kt => XS.aload X81.here hx rfl (hb hby at_173) rfl rfl kt) ?_
            show Go p e below _ (T81.setTop (mkF m 175 #[.val (.int fi), .val (.int pv), .val (.long qv), .second, .val (.int av), .val (.int wv), .val (.int fl), .val (.ref b1), .val (.ref bc4), .val (.int (1 : Int32)), .val (.int (1 : Int32)), .val (.int (0 : Int32)), .val (.ref bh63), .val (.int (0 : Int32)), .val (.int (1 : Int32))] [(.ref b1)]))
            refine Go.st (fun _ kt => XS.aload X81.here hx rfl (hb hby at_175) rfl rfl kt) ?_
            show Go p e below _ (T81.setTop (mkF m 177 #[.val (.int fi), .val (.int pv), .val (.long qv), .second, .val (.int av), .val (.int wv), .val (.int fl), .val (.ref b1), .val (.ref bc4), .val (.int (1 : Int32)), .val (.int (1 : Int32)), .val (.int (0 : Int32)), .val (.ref bh63), .val (.int (0 : Int32)), .val (.int (1 : Int32))] [(.ref bc4), (.ref b1)]))
            have f87 := (((((Fx4.keep K63q (ninS (Nat.ne_of_gt lt_b1_bc4) nin0)).keep K64q (ninS (Nat.ne_of_gt lt_b1_bc4) nin0)).keep K69q (ninS (Nat.ne_of_lt lt_bc4_bh63) nin0)).keep K76q (ninS (Nat.ne_of_gt lt_b1_bc4) nin0)).keep K81q (ninS (Nat.ne_of_gt lt_b1_bc4) nin0))
            obtain ⟨cq88, kq88, q88a, q88b, q88c⟩ := isOf hZ rfl E_k81
            obtain ⟨_, _, ⟨T88, L88, k88, n88⟩, -, X88, ⟨Lc88, hQ88, l88, y88, z88⟩, st88⟩ := X81.virtualBack hx (y := (⟨"com/example/manyhands/manyhands/crowd/Totals", "countedSince", "(Lcom/example/manyhands/manyhands/crowd/Totals;)Z"⟩ : MethodName)) (z := (⟨"com/example/manyhands/manyhands/crowd/Totals", "countedSince", "(Lcom/example/manyhands/manyhands/crowd/Totals;)Z"⟩ : MethodName)) hown (mvT hZ (hw _ (List.mem_of_getElem? (i := 31) rfl))) (mvT hZ (hw _ (List.mem_of_getElem? (i := 32) rfl))) (notFace_of_selects (args := #[]) (mvT hZ (hw _ (List.mem_of_getElem? (i := 34) rfl)))) (mvT hZ (hw _ (List.mem_of_getElem? (i := 34) rfl))) (mvT hZ (hw _ (List.mem_of_getElem? (i := 33) rfl))) (by decide) (backOf (W := 0) (rm6n l Z a0 hw [] b1 bc4 (own_c1 qv (own_c0 pv (own_c0 fi (0 : Int64)))) (own_c0 fi (0 : Int64)) T81.heap n0 Zs81 Fnk81 f87 (own_ne2 _ (Or.inr (fun q => hc153_84 ((lw_eq _ _).mpr q))))) hZ (hw _ (List.mem_of_getElem? (i := 35) rfl)) (hw _ (List.mem_of_getElem? (i := 2) rfl)) (by decide) (by decide)) q88a q88c (g := (mkF m 177 #[.val (.int fi), .val (.int pv), .val (.long qv), .second, .val (.int av), .val (.int wv), .val (.int fl), .val (.ref b1), .val (.ref bc4), .val (.int (1 : Int32)), .val (.int (1 : Int32)), .val (.int (0 : Int32)), .val (.ref bh63), .val (.int (0 : Int32)), .val (.int (1 : Int32))] [(.ref bc4), (.ref b1)])) rfl (by rw [hml]; rfl) (Steps.refl _) (argsL := [(.ref bc4)]) (rest := []) (lenOf own_pd8 rfl) rfl (by show 2 * 0 + _ ≤ _; exact Nat.le_of_eq rfl) (hb hby at_177) (fun _ _ => ⟨rfl, rfl, (by decide : 3 + 0 ≤ _), (by decide : 13 + 0 ≤ _)⟩)
            dsimp only [Pt.U, Pt.locs, Pt.cells, Pt.slots] at X88 l88 y88 z88 st88 hQ88
            subst l88 y88 z88
            obtain ⟨rfl, N88q, e88⟩ := hQ88
            have N88 := Fr.app N81 N88q
            refine Go.tr st88 ?_
            show Go p e below _ (T88.setTop (mkF m 180 #[.val (.int fi), .val (.int pv), .val (.long qv), .second, .val (.int av), .val (.int wv), .val (.int fl), .val (.ref b1), .val (.ref bc4), .val (.int (1 : Int32)), .val (.int (1 : Int32)), .val (.int (0 : Int32)), .val (.ref bh63), .val (.int (0 : Int32)), .val (.int (1 : Int32))] [(.int (1 : Int32))]))
            refine Go.st (fun _ kt => XS.iload X88.here hx rfl (hb hby at_180) rfl kt) ?_
            show Go p e below _ (T88.setTop (mkF m 182 #[.val (.int fi), .val (.int pv), .val (.long qv), .second, .val (.int av), .val (.int wv), .val (.int fl), .val (.ref b1), .val (.ref bc4), .val (.int (1 : Int32)), .val (.int (1 : Int32)), .val (.int (0 : Int32)), .val (.ref bh63), .val (.int (0 : Int32)), .val (.int (1 : Int32))] [(.int (1 : Int32)), (.int (1 : Int32))]))
            refine Go.st (fun _ kt => XS.icmpNo X88.here hx rfl (hb hby at_182) rfl (teq (by decide : (1 : Int32) = (1 : Int32))).2 kt) ?_
            show Go p e below _ (T88.setTop (mkF m 185 #[.val (.int fi), .val (.int pv), .val (.long qv), .second, .val (.int av), .val (.int wv), .val (.int fl), .val (.ref b1), .val (.ref bc4), .val (.int (1 : Int32)), .val (.int (1 : Int32)), .val (.int (0 : Int32)), .val (.ref bh63), .val (.int (0 : Int32)), .val (.int (1 : Int32))] []))
            refine Go.st (fun _ kt => XS.iconst X88.here hx rfl (hb hby at_185) kt) ?_
            show Go p e below _ (T88.setTop (mkF m 186 #[.val (.int fi), .val (.int pv), .val (.long qv), .second, .val (.int av), .val (.int wv), .val (.int fl), .val (.ref b1), .val (.ref bc4), .val (.int (1 : Int32)), .val (.int (1 : Int32)), .val (.int (0 : Int32)), .val (.ref bh63), .val (.int (0 : Int32)), .val (.int (1 : Int32))] [(.int (1 : Int32))]))
            refine Go.st (fun _ kt => XS.goto X88.here hx rfl (pc0 := 186) (pc' := 190) rfl (hb hby at_186) (by decide) (by decide) kt) ?_
            show Go p e below _ (T88.setTop (mkF m 190 #[.val (.int fi), .val (.int pv), .val (.long qv), .second, .val (.int av), .val (.int wv), .val (.int fl), .val (.ref b1), .val (.ref bc4), .val (.int (1 : Int32)), .val (.int (1 : Int32)), .val (.int (0 : Int32)), .val (.ref bh63), .val (.int (0 : Int32)), .val (.int (1 : Int32))] [(.int (1 : Int32))]))
            refine Go.retN X88 hx (t := .boolean) Bd.returns (by simp) (BodyLoose.notSynchronized Bd) (hb hby at_190) (Q := (Q_rm0 Z fi pv qv av wv fl h0 n0)) (by decide) (by decide) ?_
            show (Q_rm0 Z fi pv qv av wv fl h0 n0) _ T88.heap _
            rw [e88]
            exact ⟨rfl, N88⟩
        · refine Go.st (fun _ kt => XS.ifYes X81.here hx rfl (pc0 := 147) (pc' := 161) rfl (hb hby at_147) rfl ((if0 _ _).trans (feq hc147_83).2) (by decide) (by decide) kt) ?_
          show Go p e below _ (T81.setTop (mkF m 161 #[.val (.int fi), .val (.int pv), .val (.long qv), .second, .val (.int av), .val (.int wv), .val (.int fl), .val (.ref b1), .val (.ref bc4), .val (.int (1 : Int32)), .val (.int (1 : Int32)), .val (.int (0 : Int32)), .val (.ref bh63), .val (.int (0 : Int32)), .unset] []))
          refine Go.st (fun _ kt => XS.iconst X81.here hx rfl (hb hby at_161) kt) ?_
          show Go p e below _ (T81.setTop (mkF m 162 #[.val (.int fi), .val (.int pv), .val (.long qv), .second, .val (.int av), .val (.int wv), .val (.int fl), .val (.ref b1), .val (.ref bc4), .val (.int (1 : Int32)), .val (.int (1 : Int32)), .val (.int (0 : Int32)), .val (.ref bh63), .val (.int (0 : Int32)), .unset] [(.int (1 : Int32))]))
          refine Go.st (fun _ kt => XS.goto X81.here hx rfl (pc0 := 162) (pc' := 166) rfl (hb hby at_162) (by decide) (by decide) kt) ?_
          show Go p e below _ (T81.setTop (mkF m 166 #[.val (.int fi), .val (.int pv), .val (.long qv), .second, .val (.int av), .val (.int wv), .val (.int fl), .val (.ref b1), .val (.ref bc4), .val (.int (1 : Int32)), .val (.int (1 : Int32)), .val (.int (0 : Int32)), .val (.ref bh63), .val (.int (0 : Int32)), .unset] [(.int (1 : Int32))]))
          refine Go.st (fun _ kt => XS.istore X81.here hx rfl (hb hby at_166) rfl (l' := #[.val (.int fi), .val (.int pv), .val (.long qv), .second, .val (.int av), .val (.int wv), .val (.int fl), .val (.ref b1), .val (.ref bc4), .val (.int (1 : Int32)), .val (.int (1 : Int32)), .val (.int (0 : Int32)), .val (.ref bh63), .val (.int (0 : Int32)), .val (.int (1 : Int32))]) rfl kt) ?_
          show Go p e below _ (T81.setTop (mkF m 168 #[.val (.int fi), .val (.int pv), .val (.long qv), .second, .val (.int av), .val (.int wv), .val (.int fl), .val (.ref b1), .val (.ref bc4), .val (.int (1 : Int32)), .val (.int (1 : Int32)), .val (.int (0 : Int32)), .val (.ref bh63), .val (.int (0 : Int32)), .val (.int (1 : Int32))] []))
          refine Go.st (fun _ kt => XS.iload X81.here hx rfl (hb hby at_168) rfl kt) ?_
          show Go p e below _ (T81.setTop (mkF m 170 #[.val (.int fi), .val (.int pv), .val (.long qv), .second, .val (.int av), .val (.int wv), .val (.int fl), .val (.ref b1), .val (.ref bc4), .val (.int (1 : Int32)), .val (.int (1 : Int32)), .val (.int (0 : Int32)), .val (.ref bh63), .val (.int (0 : Int32)), .val (.int (1 : Int32))] [(.int (1 : Int32))]))
          refine Go.st (fun _ kt => XS.ifNo X81.here hx rfl (hb hby at_170) rfl ((if0 _ _).trans (feq (by decide : ¬ ((1 : Int32) = (0 : Int32)))).1) kt) ?_
          show Go p e below _ (T81.setTop (mkF m 173 #[.val (.int fi), .val (.int pv), .val (.long qv), .second, .val (.int av), .val (.int wv), .val (.int fl), .val (.ref b1), .val (.ref bc4), .val (.int (1 : Int32)), .val (.int (1 : Int32)), .val (.int (0 : Int32)), .val (.ref bh63), .val (.int (0 : Int32)), .val (.int (1 : Int32))] []))
          refine Go.st (fun _ kt => XS.aload X81.here hx rfl (hb hby at_173) rfl rfl kt) ?_
          show Go p e below _ (T81.setTop (mkF m 175 #[.val (.int fi), .val (.int pv), .val (.long qv), .second, .val (.int av), .val (.int wv), .val (.int fl), .val (.ref b1), .val (.ref bc4), .val (.int (1 : Int32)), .val (.int (1 : Int32)), .val (.int (0 : Int32)), .val (.ref bh63), .val (.int (0 : Int32)), .val (.int (1 : Int32))] [(.ref b1)]))
          refine Go.st (fun _ kt => XS.aload X81.here hx rfl (hb hby at_175) rfl rfl kt) ?_
          show Go p e below _ (T81.setTop (mkF m 177 #[.val (.int fi), .val (.int pv), .val (.long qv), .second, .val (.int av), .val (.int wv), .val (.int fl), .val (.ref b1), .val (.ref bc4), .val (.int (1 : Int32)), .val (.int (1 : Int32)), .val (.int (0 : Int32)), .val (.ref bh63), .val (.int (0 : Int32)), .val (.int (1 : Int32))] [(.ref bc4), (.ref b1)]))
          have f89 := (((((Fx4.keep K63q (ninS (Nat.ne_of_gt lt_b1_bc4) nin0)).keep K64q (ninS (Nat.ne_of_gt lt_b1_bc4) nin0)).keep K69q (ninS (Nat.ne_of_lt lt_bc4_bh63) nin0)).keep K76q (ninS (Nat.ne_of_gt lt_b1_bc4) nin0)).keep K81q (ninS (Nat.ne_of_gt lt_b1_bc4) nin0))
          obtain ⟨cq90, kq90, q90a, q90b, q90c⟩ := isOf hZ rfl E_k81
          obtain ⟨_, _, ⟨T90, L90, k90, n90⟩, -, X90, ⟨Lc90, hQ90, l90, y90, z90⟩, st90⟩ := X81.virtualBack hx (y := (⟨"com/example/manyhands/manyhands/crowd/Totals", "countedSince", "(Lcom/example/manyhands/manyhands/crowd/Totals;)Z"⟩ : MethodName)) (z := (⟨"com/example/manyhands/manyhands/crowd/Totals", "countedSince", "(Lcom/example/manyhands/manyhands/crowd/Totals;)Z"⟩ : MethodName)) hown (mvT hZ (hw _ (List.mem_of_getElem? (i := 31) rfl))) (mvT hZ (hw _ (List.mem_of_getElem? (i := 32) rfl))) (notFace_of_selects (args := #[]) (mvT hZ (hw _ (List.mem_of_getElem? (i := 34) rfl)))) (mvT hZ (hw _ (List.mem_of_getElem? (i := 34) rfl))) (mvT hZ (hw _ (List.mem_of_getElem? (i := 33) rfl))) (by decide) (backOf (W := 0) (rm6n l Z a0 hw [] b1 bc4 (own_c1 qv (own_c0 pv (own_c0 fi (0 : Int64)))) (own_c0 fi (0 : Int64)) T81.heap n0 Zs81 Fnk81 f89 (own_ne2 _ (Or.inl hc147_83))) hZ (hw _ (List.mem_of_getElem? (i := 35) rfl)) (hw _ (List.mem_of_getElem? (i := 2) rfl)) (by decide) (by decide)) q90a q90c (g := (mkF m 177 #[.val (.int fi), .val (.int pv), .val (.long qv), .second, .val (.int av), .val (.int wv), .val (.int fl), .val (.ref b1), .val (.ref bc4), .val (.int (1 : Int32)), .val (.int (1 : Int32)), .val (.int (0 : Int32)), .val (.ref bh63), .val (.int (0 : Int32)), .val (.int (1 : Int32))] [(.ref bc4), (.ref b1)])) rfl (by rw [hml]; rfl) (Steps.refl _) (argsL := [(.ref bc4)]) (rest := []) (lenOf own_pd8 rfl) rfl (by show 2 * 0 + _ ≤ _; exact Nat.le_of_eq rfl) (hb hby at_177) (fun _ _ => ⟨rfl, rfl, (by decide : 3 + 0 ≤ _), (by decide : 13 + 0 ≤ _)⟩)
          dsimp only [Pt.U, Pt.locs, Pt.cells, Pt.slots] at X90 l90 y90 z90 st90 hQ90
          subst l90 y90 z90
          obtain ⟨rfl, N90q, e90⟩ := hQ90
          have N90 := Fr.app N81 N90q
          refine Go.tr st90 ?_
          show Go p e below _ (T90.setTop (mkF m 180 #[.val (.int fi), .val (.int pv), .val (.long qv), .second, .val (.int av), .val (.int wv), .val (.int fl), .val (.ref b1), .val (.ref bc4), .val (.int (1 : Int32)), .val (.int (1 : Int32)), .val (.int (0 : Int32)), .val (.ref bh63), .val (.int (0 : Int32)), .val (.int (1 : Int32))] [(.int (1 : Int32))]))
          refine Go.st (fun _ kt => XS.iload X90.here hx rfl (hb hby at_180) rfl kt) ?_
          show Go p e below _ (T90.setTop (mkF m 182 #[.val (.int fi), .val (.int pv), .val (.long qv), .second, .val (.int av), .val (.int wv), .val (.int fl), .val (.ref b1), .val (.ref bc4), .val (.int (1 : Int32)), .val (.int (1 : Int32)), .val (.int (0 : Int32)), .val (.ref bh63), .val (.int (0 : Int32)), .val (.int (1 : Int32))] [(.int (1 : Int32)), (.int (1 : Int32))]))
          refine Go.st (fun _ kt => XS.icmpNo X90.here hx rfl (hb hby at_182) rfl (teq (by decide : (1 : Int32) = (1 : Int32))).2 kt) ?_
          show Go p e below _ (T90.setTop (mkF m 185 #[.val (.int fi), .val (.int pv), .val (.long qv), .second, .val (.int av), .val (.int wv), .val (.int fl), .val (.ref b1), .val (.ref bc4), .val (.int (1 : Int32)), .val (.int (1 : Int32)), .val (.int (0 : Int32)), .val (.ref bh63), .val (.int (0 : Int32)), .val (.int (1 : Int32))] []))
          refine Go.st (fun _ kt => XS.iconst X90.here hx rfl (hb hby at_185) kt) ?_
          show Go p e below _ (T90.setTop (mkF m 186 #[.val (.int fi), .val (.int pv), .val (.long qv), .second, .val (.int av), .val (.int wv), .val (.int fl), .val (.ref b1), .val (.ref bc4), .val (.int (1 : Int32)), .val (.int (1 : Int32)), .val (.int (0 : Int32)), .val (.ref bh63), .val (.int (0 : Int32)), .val (.int (1 : Int32))] [(.int (1 : Int32))]))
          refine Go.st (fun _ kt => XS.goto X90.here hx rfl (pc0 := 186) (pc' := 190) rfl (hb hby at_186) (by decide) (by decide) kt) ?_
          show Go p e below _ (T90.setTop (mkF m 190 #[.val (.int fi), .val (.int pv), .val (.long qv), .second, .val (.int av), .val (.int wv), .val (.int fl), .val (.ref b1), .val (.ref bc4), .val (.int (1 : Int32)), .val (.int (1 : Int32)), .val (.int (0 : Int32)), .val (.ref bh63), .val (.int (0 : Int32)), .val (.int (1 : Int32))] [(.int (1 : Int32))]))
          refine Go.retN X90 hx (t := .boolean) Bd.returns (by simp) (BodyLoose.notSynchronized Bd) (hb hby at_190) (Q := (Q_rm0 Z fi pv qv av wv fl h0 n0)) (by decide) (by decide) ?_
          show (Q_rm0 Z fi pv qv av wv fl h0 n0) _ T90.heap _
          rw [e90]
          exact ⟨rfl, N90⟩
      · refine Go.st (fun _ kt => XS.ifNo X81.here hx rfl (hb hby at_126) rfl ((if0 _ _).trans (feq hc126_82).1) kt) ?_
        show Go p e below _ (T81.setTop (mkF m 129 #[.val (.int fi), .val (.int pv), .val (.long qv), .second, .val (.int av), .val (.int wv), .val (.int fl), .val (.ref b1), .val (.ref bc4), .val (.int (1 : Int32)), .val (.int (1 : Int32)), .val (.int (0 : Int32)), .val (.ref bh63), .unset, .unset] []))
        refine Go.st (fun _ kt => XS.iload X81.here hx rfl (hb hby at_129) rfl kt) ?_
        show Go p e below _ (T81.setTop (mkF m 131 #[.val (.int fi), .val (.int pv), .val (.long qv), .second, .val (.int av), .val (.int wv), .val (.int fl), .val (.ref b1), .val (.ref bc4), .val (.int (1 : Int32)), .val (.int (1 : Int32)), .val (.int (0 : Int32)), .val (.ref bh63), .unset, .unset] [(.int (1 : Int32))]))
        refine Go.st (fun _ kt => XS.ifNo X81.here hx rfl (hb hby at_131) rfl ((if0 _ _).trans (feq (by decide : ¬ ((1 : Int32) = (0 : Int32)))).1) kt) ?_
        show Go p e below _ (T81.setTop (mkF m 134 #[.val (.int fi), .val (.int pv), .val (.long qv), .second, .val (.int av), .val (.int wv), .val (.int fl), .val (.ref b1), .val (.ref bc4), .val (.int (1 : Int32)), .val (.int (1 : Int32)), .val (.int (0 : Int32)), .val (.ref bh63), .unset, .unset] []))
        refine Go.st (fun _ kt => XS.iload X81.here hx rfl (hb hby at_134) rfl kt) ?_
        show Go p e below _ (T81.setTop (mkF m 136 #[.val (.int fi), .val (.int pv), .val (.long qv), .second, .val (.int av), .val (.int wv), .val (.int fl), .val (.ref b1), .val (.ref bc4), .val (.int (1 : Int32)), .val (.int (1 : Int32)), .val (.int (0 : Int32)), .val (.ref bh63), .unset, .unset] [(.int (0 : Int32))]))
        refine Go.st (fun _ kt => XS.ifYes X81.here hx rfl (pc0 := 136) (pc' := 143) rfl (hb hby at_136) rfl ((if0 _ _).trans (teq (by decide : (0 : Int32) = (0 : Int32))).1) (by decide) (by decide) kt) ?_
        show Go p e below _ (T81.setTop (mkF m 143 #[.val (.int fi), .val (.int pv), .val (.long qv), .second, .val (.int av), .val (.int wv), .val (.int fl), .val (.ref b1), .val (.ref bc4), .val (.int (1 : Int32)), .val (.int (1 : Int32)), .val (.int (0 : Int32)), .val (.ref bh63), .unset, .unset] []))
        refine Go.st (fun _ kt => XS.iconst X81.here hx rfl (hb hby at_143) kt) ?_
        show Go p e below _ (T81.setTop (mkF m 144 #[.val (.int fi), .val (.int pv), .val (.long qv), .second, .val (.int av), .val (.int wv), .val (.int fl), .val (.ref b1), .val (.ref bc4), .val (.int (1 : Int32)), .val (.int (1 : Int32)), .val (.int (0 : Int32)), .val (.ref bh63), .unset, .unset] [(.int (0 : Int32))]))
        refine Go.st (fun _ kt => XS.istore X81.here hx rfl (hb hby at_144) rfl (l' := #[.val (.int fi), .val (.int pv), .val (.long qv), .second, .val (.int av), .val (.int wv), .val (.int fl), .val (.ref b1), .val (.ref bc4), .val (.int (1 : Int32)), .val (.int (1 : Int32)), .val (.int (0 : Int32)), .val (.ref bh63), .val (.int (0 : Int32)), .unset]) rfl kt) ?_
        show Go p e below _ (T81.setTop (mkF m 146 #[.val (.int fi), .val (.int pv), .val (.long qv), .second, .val (.int av), .val (.int wv), .val (.int fl), .val (.ref b1), .val (.ref bc4), .val (.int (1 : Int32)), .val (.int (1 : Int32)), .val (.int (0 : Int32)), .val (.ref bh63), .val (.int (0 : Int32)), .unset] []))
        refine Go.st (fun _ kt => XS.iloadN X81.here hx rfl (hb hby at_146) rfl kt) ?_
        show Go p e below _ (T81.setTop (mkF m 147 #[.val (.int fi), .val (.int pv), .val (.long qv), .second, .val (.int av), .val (.int wv), .val (.int fl), .val (.ref b1), .val (.ref bc4), .val (.int (1 : Int32)), .val (.int (1 : Int32)), .val (.int (0 : Int32)), .val (.ref bh63), .val (.int (0 : Int32)), .unset] [(.int pv)]))
        by_cases hc147_91 : pv = (0 : Int32)
        · refine Go.st (fun _ kt => XS.ifNo X81.here hx rfl (hb hby at_147) rfl ((if0 _ _).trans (teq hc147_91).2) kt) ?_
          show Go p e below _ (T81.setTop (mkF m 150 #[.val (.int fi), .val (.int pv), .val (.long qv), .second, .val (.int av), .val (.int wv), .val (.int fl), .val (.ref b1), .val (.ref bc4), .val (.int (1 : Int32)), .val (.int (1 : Int32)), .val (.int (0 : Int32)), .val (.ref bh63), .val (.int (0 : Int32)), .unset] []))
          refine Go.st (fun _ kt => XS.lloadN X81.here hx rfl (hb hby at_150) rfl kt) ?_
          show Go p e below _ (T81.setTop (mkF m 151 #[.val (.int fi), .val (.int pv), .val (.long qv), .second, .val (.int av), .val (.int wv), .val (.int fl), .val (.ref b1), .val (.ref bc4), .val (.int (1 : Int32)), .val (.int (1 : Int32)), .val (.int (0 : Int32)), .val (.ref bh63), .val (.int (0 : Int32)), .unset] [(.long qv)]))
          refine Go.st (fun _ kt => XS.lconst X81.here hx rfl (hb hby at_151) kt) ?_
          show Go p e below _ (T81.setTop (mkF m 152 #[.val (.int fi), .val (.int pv), .val (.long qv), .second, .val (.int av), .val (.int wv), .val (.int fl), .val (.ref b1), .val (.ref bc4), .val (.int (1 : Int32)), .val (.int (1 : Int32)), .val (.int (0 : Int32)), .val (.ref bh63), .val (.int (0 : Int32)), .unset] [(.long (0 : Int64)), (.long qv)]))
          refine Go.st (fun _ kt => XS.lcmp X81.here hx rfl (hb hby at_152) rfl kt) ?_
          show Go p e below _ (T81.setTop (mkF m 153 #[.val (.int fi), .val (.int pv), .val (.long qv), .second, .val (.int av), .val (.int wv), .val (.int fl), .val (.ref b1), .val (.ref bc4), .val (.int (1 : Int32)), .val (.int (1 : Int32)), .val (.int (0 : Int32)), .val (.ref bh63), .val (.int (0 : Int32)), .unset] [(.int (lcmpW qv (0 : Int64)))]))
          by_cases hc153_92 : (lcmpW qv (0 : Int64)) = (0 : Int32)
          · refine Go.st (fun _ kt => XS.ifNo X81.here hx rfl (hb hby at_153) rfl ((if0 _ _).trans (teq hc153_92).2) kt) ?_
            show Go p e below _ (T81.setTop (mkF m 156 #[.val (.int fi), .val (.int pv), .val (.long qv), .second, .val (.int av), .val (.int wv), .val (.int fl), .val (.ref b1), .val (.ref bc4), .val (.int (1 : Int32)), .val (.int (1 : Int32)), .val (.int (0 : Int32)), .val (.ref bh63), .val (.int (0 : Int32)), .unset] []))
            refine Go.st (fun _ kt => XS.iload X81.here hx rfl (hb hby at_156) rfl kt) ?_
            show Go p e below _ (T81.setTop (mkF m 158 #[.val (.int fi), .val (.int pv), .val (.long qv), .second, .val (.int av), .val (.int wv), .val (.int fl), .val (.ref b1), .val (.ref bc4), .val (.int (1 : Int32)), .val (.int (1 : Int32)), .val (.int (0 : Int32)), .val (.ref bh63), .val (.int (0 : Int32)), .unset] [(.int (0 : Int32))]))
            refine Go.st (fun _ kt => XS.ifYes X81.here hx rfl (pc0 := 158) (pc' := 165) rfl (hb hby at_158) rfl ((if0 _ _).trans (teq (by decide : (0 : Int32) = (0 : Int32))).1) (by decide) (by decide) kt) ?_
            show Go p e below _ (T81.setTop (mkF m 165 #[.val (.int fi), .val (.int pv), .val (.long qv), .second, .val (.int av), .val (.int wv), .val (.int fl), .val (.ref b1), .val (.ref bc4), .val (.int (1 : Int32)), .val (.int (1 : Int32)), .val (.int (0 : Int32)), .val (.ref bh63), .val (.int (0 : Int32)), .unset] []))
            refine Go.st (fun _ kt => XS.iconst X81.here hx rfl (hb hby at_165) kt) ?_
            show Go p e below _ (T81.setTop (mkF m 166 #[.val (.int fi), .val (.int pv), .val (.long qv), .second, .val (.int av), .val (.int wv), .val (.int fl), .val (.ref b1), .val (.ref bc4), .val (.int (1 : Int32)), .val (.int (1 : Int32)), .val (.int (0 : Int32)), .val (.ref bh63), .val (.int (0 : Int32)), .unset] [(.int (0 : Int32))]))
            refine Go.st (fun _ kt => XS.istore X81.here hx rfl (hb hby at_166) rfl (l' := #[.val (.int fi), .val (.int pv), .val (.long qv), .second, .val (.int av), .val (.int wv), .val (.int fl), .val (.ref b1), .val (.ref bc4), .val (.int (1 : Int32)), .val (.int (1 : Int32)), .val (.int (0 : Int32)), .val (.ref bh63), .val (.int (0 : Int32)), .val (.int (0 : Int32))]) rfl kt) ?_
            show Go p e below _ (T81.setTop (mkF m 168 #[.val (.int fi), .val (.int pv), .val (.long qv), .second, .val (.int av), .val (.int wv), .val (.int fl), .val (.ref b1), .val (.ref bc4), .val (.int (1 : Int32)), .val (.int (1 : Int32)), .val (.int (0 : Int32)), .val (.ref bh63), .val (.int (0 : Int32)), .val (.int (0 : Int32))] []))
            refine Go.st (fun _ kt => XS.iload X81.here hx rfl (hb hby at_168) rfl kt) ?_
            show Go p e below _ (T81.setTop (mkF m 170 #[.val (.int fi), .val (.int pv), .val (.long qv), .second, .val (.int av), .val (.int wv), .val (.int fl), .val (.ref b1), .val (.ref bc4), .val (.int (1 : Int32)), .val (.int (1 : Int32)), .val (.int (0 : Int32)), .val (.ref bh63), .val (.int (0 : Int32)), .val (.int (0 : Int32))] [(.int (1 : Int32))]))
            refine Go.st (fun _ kt => XS.ifNo X81.here hx rfl (hb hby at_170) rfl ((if0 _ _).trans (feq (by decide : ¬ ((1 : Int32) = (0 : Int32)))).1) kt) ?_
            show Go p e below _ (T81.setTop (mkF m 173 #[.val (.int fi), .val (.int pv), .val (.long qv), .second, .val (.int av), .val (.int wv), .val (.int fl), .val (.ref b1), .val (.ref bc4), .val (.int (1 : Int32)), .val (.int (1 : Int32)), .val (.int (0 : Int32)), .val (.ref bh63), .val (.int (0 : Int32)), .val (.int (0 : Int32))] []))
            refine Go.st (fun _ kt => XS.aload X81.here hx rfl (hb hby at_173) rfl rfl kt) ?_
            show Go p e below _ (T81.setTop (mkF m 175 #[.val (.int fi), .val (.int pv), .val (.long qv), .second, .val (.int av), .val (.int wv), .val (.int fl), .val (.ref b1), .val (.ref bc4), .val (.int (1 : Int32)), .val (.int (1 : Int32)), .val (.int (0 : Int32)), .val (.ref bh63), .val (.int (0 : Int32)), .val (.int (0 : Int32))] [(.ref b1)]))
            refine Go.st (fun _ kt => XS.aload X81.here hx rfl (hb hby at_175) rfl rfl kt) ?_
            show Go p e below _ (T81.setTop (mkF m 177 #[.val (.int fi), .val (.int pv), .val (.long qv), .second, .val (.int av), .val (.int wv), .val (.int fl), .val (.ref b1), .val (.ref bc4), .val (.int (1 : Int32)), .val (.int (1 : Int32)), .val (.int (0 : Int32)), .val (.ref bh63), .val (.int (0 : Int32)), .val (.int (0 : Int32))] [(.ref bc4), (.ref b1)]))
            have f93 := (((((Fx4.keep K63q (ninS (Nat.ne_of_gt lt_b1_bc4) nin0)).keep K64q (ninS (Nat.ne_of_gt lt_b1_bc4) nin0)).keep K69q (ninS (Nat.ne_of_lt lt_bc4_bh63) nin0)).keep K76q (ninS (Nat.ne_of_gt lt_b1_bc4) nin0)).keep K81q (ninS (Nat.ne_of_gt lt_b1_bc4) nin0))
            obtain ⟨cq94, kq94, q94a, q94b, q94c⟩ := isOf hZ rfl E_k81
            obtain ⟨_, _, ⟨T94, L94, k94, n94⟩, -, X94, ⟨Lc94, hQ94, l94, y94, z94⟩, st94⟩ := X81.virtualBack hx (y := (⟨"com/example/manyhands/manyhands/crowd/Totals", "countedSince", "(Lcom/example/manyhands/manyhands/crowd/Totals;)Z"⟩ : MethodName)) (z := (⟨"com/example/manyhands/manyhands/crowd/Totals", "countedSince", "(Lcom/example/manyhands/manyhands/crowd/Totals;)Z"⟩ : MethodName)) hown (mvT hZ (hw _ (List.mem_of_getElem? (i := 31) rfl))) (mvT hZ (hw _ (List.mem_of_getElem? (i := 32) rfl))) (notFace_of_selects (args := #[]) (mvT hZ (hw _ (List.mem_of_getElem? (i := 34) rfl)))) (mvT hZ (hw _ (List.mem_of_getElem? (i := 34) rfl))) (mvT hZ (hw _ (List.mem_of_getElem? (i := 33) rfl))) (by decide) (backOf (W := 0) (rm6e l Z a0 hw [] b1 bc4 (own_c1 qv (own_c0 pv (own_c0 fi (0 : Int64)))) (own_c0 fi (0 : Int64)) T81.heap n0 Zs81 Fnk81 f93 (own_eq2 _ hc147_91 ((lw_eq _ _).mp hc153_92))) hZ (hw _ (List.mem_of_getElem? (i := 35) rfl)) (hw _ (List.mem_of_getElem? (i := 2) rfl)) (by decide) (by decide)) q94a q94c (g := (mkF m 177 #[.val (.int fi), .val (.int pv), .val (.long qv), .second, .val (.int av), .val (.int wv), .val (.int fl), .val (.ref b1), .val (.ref bc4), .val (.int (1 : Int32)), .val (.int (1 : Int32)), .val (.int (0 : Int32)), .val (.ref bh63), .val (.int (0 : Int32)), .val (.int (0 : Int32))] [(.ref bc4), (.ref b1)])) rfl (by rw [hml]; rfl) (Steps.refl _) (argsL := [(.ref bc4)]) (rest := []) (lenOf own_pd8 rfl) rfl (by show 2 * 0 + _ ≤ _; exact Nat.le_of_eq rfl) (hb hby at_177) (fun _ _ => ⟨rfl, rfl, (by decide : 3 + 0 ≤ _), (by decide : 13 + 0 ≤ _)⟩)
            dsimp only [Pt.U, Pt.locs, Pt.cells, Pt.slots] at X94 l94 y94 z94 st94 hQ94
            subst l94 y94 z94
            obtain ⟨rfl, N94q, e94⟩ := hQ94
            have N94 := Fr.app N81 N94q
            refine Go.tr st94 ?_
            show Go p e below _ (T94.setTop (mkF m 180 #[.val (.int fi), .val (.int pv), .val (.long qv), .second, .val (.int av), .val (.int wv), .val (.int fl), .val (.ref b1), .val (.ref bc4), .val (.int (1 : Int32)), .val (.int (1 : Int32)), .val (.int (0 : Int32)), .val (.ref bh63), .val (.int (0 : Int32)), .val (.int (0 : Int32))] [(.int (0 : Int32))]))
            refine Go.st (fun _ kt => XS.iload X94.here hx rfl (hb hby at_180) rfl kt) ?_
            show Go p e below _ (T94.setTop (mkF m 182 #[.val (.int fi), .val (.int pv), .val (.long qv), .second, .val (.int av), .val (.int wv), .val (.int fl), .val (.ref b1), .val (.ref bc4), .val (.int (1 : Int32)), .val (.int (1 : Int32)), .val (.int (0 : Int32)), .val (.ref bh63), .val (.int (0 : Int32)), .val (.int (0 : Int32))] [(.int (0 : Int32)), (.int (0 : Int32))]))
            refine Go.st (fun _ kt => XS.icmpNo X94.here hx rfl (hb hby at_182) rfl (teq (by decide : (0 : Int32) = (0 : Int32))).2 kt) ?_
            show Go p e below _ (T94.setTop (mkF m 185 #[.val (.int fi), .val (.int pv), .val (.long qv), .second, .val (.int av), .val (.int wv), .val (.int fl), .val (.ref b1), .val (.ref bc4), .val (.int (1 : Int32)), .val (.int (1 : Int32)), .val (.int (0 : Int32)), .val (.ref bh63), .val (.int (0 : Int32)), .val (.int (0 : Int32))] []))
            refine Go.st (fun _ kt => XS.iconst X94.here hx rfl (hb hby at_185) kt) ?_
            show Go p e below _ (T94.setTop (mkF m 186 #[.val (.int fi), .val (.int pv), .val (.long qv), .second, .val (.int av), .val (.int wv), .val (.int fl), .val (.ref b1), .val (.ref bc4), .val (.int (1 : Int32)), .val (.int (1 : Int32)), .val (.int (0 : Int32)), .val (.ref bh63), .val (.int (0 : Int32)), .val (.int (0 : Int32))] [(.int (1 : Int32))]))
            refine Go.st (fun _ kt => XS.goto X94.here hx rfl (pc0 := 186) (pc' := 190) rfl (hb hby at_186) (by decide) (by decide) kt) ?_
            show Go p e below _ (T94.setTop (mkF m 190 #[.val (.int fi), .val (.int pv), .val (.long qv), .second, .val (.int av), .val (.int wv), .val (.int fl), .val (.ref b1), .val (.ref bc4), .val (.int (1 : Int32)), .val (.int (1 : Int32)), .val (.int (0 : Int32)), .val (.ref bh63), .val (.int (0 : Int32)), .val (.int (0 : Int32))] [(.int (1 : Int32))]))
            refine Go.retN X94 hx (t := .boolean) Bd.returns (by simp) (BodyLoose.notSynchronized Bd) (hb hby at_190) (Q := (Q_rm0 Z fi pv qv av wv fl h0 n0)) (by decide) (by decide) ?_
            show (Q_rm0 Z fi pv qv av wv fl h0 n0) _ T94.heap _
            rw [e94]
            exact ⟨rfl, N94⟩
          · refine Go.st (fun _ kt => XS.ifYes X81.here hx rfl (pc0 := 153) (pc' := 161) rfl (hb hby at_153) rfl ((if0 _ _).trans (feq hc153_92).2) (by decide) (by decide) kt) ?_
            show Go p e below _ (T81.setTop (mkF m 161 #[.val (.int fi), .val (.int pv), .val (.long qv), .second, .val (.int av), .val (.int wv), .val (.int fl), .val (.ref b1), .val (.ref bc4), .val (.int (1 : Int32)), .val (.int (1 : Int32)), .val (.int (0 : Int32)), .val (.ref bh63), .val (.int (0 : Int32)), .unset] []))
            refine Go.st (fun _ kt => XS.iconst X81.here hx rfl (hb hby at_161) kt) ?_
            show Go p e below _ (T81.setTop (mkF m 162 #[.val (.int fi), .val (.int pv), .val (.long qv), .second, .val (.int av), .val (.int wv), .val (.int fl), .val (.ref b1), .val (.ref bc4), .val (.int (1 : Int32)), .val (.int (1 : Int32)), .val (.int (0 : Int32)), .val (.ref bh63), .val (.int (0 : Int32)), .unset] [(.int (1 : Int32))]))
            refine Go.st (fun _ kt => XS.goto X81.here hx rfl (pc0 := 162) (pc' := 166) rfl (hb hby at_162) (by decide) (by decide) kt) ?_
            show Go p e below _ (T81.setTop (mkF m 166 #[.val (.int fi), .val (.int pv), .val (.long qv), .second, .val (.int av), .val (.int wv), .val (.int fl), .val (.ref b1), .val (.ref bc4), .val (.int (1 : Int32)), .val (.int (1 : Int32)), .val (.int (0 : Int32)), .val (.ref bh63), .val (.int (0 : Int32)), .unset] [(.int (1 : Int32))]))
            refine Go.st (fun _ kt => XS.istore X81.here hx rfl (hb hby at_166) rfl (l' := #[.val (.int fi), .val (.int pv), .val (.long qv), .second, .val (.int av), .val (.int wv), .val (.int fl), .val (.ref b1), .val (.ref bc4), .val (.int (1 : Int32)), .val (.int (1 : Int32)), .val (.int (0 : Int32)), .val (.ref bh63), .val (.int (0 : Int32)), .val (.int (1 : Int32))]) rfl kt) ?_
            show Go p e below _ (T81.setTop (mkF m 168 #[.val (.int fi), .val (.int pv), .val (.long qv), .second, .val (.int av), .val (.int wv), .val (.int fl), .val (.ref b1), .val (.ref bc4), .val (.int (1 : Int32)), .val (.int (1 : Int32)), .val (.int (0 : Int32)), .val (.ref bh63), .val (.int (0 : Int32)), .val (.int (1 : Int32))] []))
            refine Go.st (fun _ kt => XS.iload X81.here hx rfl (hb hby at_168) rfl kt) ?_
            show Go p e below _ (T81.setTop (mkF m 170 #[.val (.int fi), .val (.int pv), .val (.long qv), .second, .val (.int av), .val (.int wv), .val (.int fl), .val (.ref b1), .val (.ref bc4), .val (.int (1 : Int32)), .val (.int (1 : Int32)), .val (.int (0 : Int32)), .val (.ref bh63), .val (.int (0 : Int32)), .val (.int (1 : Int32))] [(.int (1 : Int32))]))
            refine Go.st (fun _ kt => XS.ifNo X81.here hx rfl (hb hby at_170) rfl ((if0 _ _).trans (feq (by decide : ¬ ((1 : Int32) = (0 : Int32)))).1) kt) ?_
            show Go p e below _ (T81.setTop (mkF m 173 #[.val (.int fi), .val (.int pv), .val (.long qv), .second, .val (.int av), .val (.int wv), .val (.int fl), .val (.ref b1), .val (.ref bc4), .val (.int (1 : Int32)), .val (.int (1 : Int32)), .val (.int (0 : Int32)), .val (.ref bh63), .val (.int (0 : Int32)), .val (.int (1 : Int32))] []))
            refine Go.st (fun _ kt => XS.aload X81.here hx rfl (hb hby at_173) rfl rfl kt) ?_
            show Go p e below _ (T81.setTop (mkF m 175 #[.val (.int fi), .val (.int pv), .val (.long qv), .second, .val (.int av), .val (.int wv), .val (.int fl), .val (.ref b1), .val (.ref bc4), .val (.int (1 : Int32)), .val (.int (1 : Int32)), .val (.int (0 : Int32)), .val (.ref bh63), .val (.int (0 : Int32)), .val (.int (1 : Int32))] [(.ref b1)]))
            refine Go.st (fun _ kt => XS.aload X81.here hx rfl (hb hby at_175) rfl rfl kt) ?_
            show Go p e below _ (T81.setTop (mkF m 177 #[.val (.int fi), .val (.int pv), .val (.long qv), .second, .val (.int av), .val (.int wv), .val (.int fl), .val (.ref b1), .val (.ref bc4), .val (.int (1 : Int32)), .val (.int (1 : Int32)), .val (.int (0 : Int32)), .val (.ref bh63), .val (.int (0 : Int32)), .val (.int (1 : Int32))] [(.ref bc4), (.ref b1)]))
            have f95 := (((((Fx4.keep K63q (ninS (Nat.ne_of_gt lt_b1_bc4) nin0)).keep K64q (ninS (Nat.ne_of_gt lt_b1_bc4) nin0)).keep K69q (ninS (Nat.ne_of_lt lt_bc4_bh63) nin0)).keep K76q (ninS (Nat.ne_of_gt lt_b1_bc4) nin0)).keep K81q (ninS (Nat.ne_of_gt lt_b1_bc4) nin0))
            obtain ⟨cq96, kq96, q96a, q96b, q96c⟩ := isOf hZ rfl E_k81
            obtain ⟨_, _, ⟨T96, L96, k96, n96⟩, -, X96, ⟨Lc96, hQ96, l96, y96, z96⟩, st96⟩ := X81.virtualBack hx (y := (⟨"com/example/manyhands/manyhands/crowd/Totals", "countedSince", "(Lcom/example/manyhands/manyhands/crowd/Totals;)Z"⟩ : MethodName)) (z := (⟨"com/example/manyhands/manyhands/crowd/Totals", "countedSince", "(Lcom/example/manyhands/manyhands/crowd/Totals;)Z"⟩ : MethodName)) hown (mvT hZ (hw _ (List.mem_of_getElem? (i := 31) rfl))) (mvT hZ (hw _ (List.mem_of_getElem? (i := 32) rfl))) (notFace_of_selects (args := #[]) (mvT hZ (hw _ (List.mem_of_getElem? (i := 34) rfl)))) (mvT hZ (hw _ (List.mem_of_getElem? (i := 34) rfl))) (mvT hZ (hw _ (List.mem_of_getElem? (i := 33) rfl))) (by decide) (backOf (W := 0) (rm6n l Z a0 hw [] b1 bc4 (own_c1 qv (own_c0 pv (own_c0 fi (0 : Int64)))) (own_c0 fi (0 : Int64)) T81.heap n0 Zs81 Fnk81 f95 (own_ne2 _ (Or.inr (fun q => hc153_92 ((lw_eq _ _).mpr q))))) hZ (hw _ (List.mem_of_getElem? (i := 35) rfl)) (hw _ (List.mem_of_getElem? (i := 2) rfl)) (by decide) (by decide)) q96a q96c (g := (mkF m 177 #[.val (.int fi), .val (.int pv), .val (.long qv), .second, .val (.int av), .val (.int wv), .val (.int fl), .val (.ref b1), .val (.ref bc4), .val (.int (1 : Int32)), .val (.int (1 : Int32)), .val (.int (0 : Int32)), .val (.ref bh63), .val (.int (0 : Int32)), .val (.int (1 : Int32))] [(.ref bc4), (.ref b1)])) rfl (by rw [hml]; rfl) (Steps.refl _) (argsL := [(.ref bc4)]) (rest := []) (lenOf own_pd8 rfl) rfl (by show 2 * 0 + _ ≤ _; exact Nat.le_of_eq rfl) (hb hby at_177) (fun _ _ => ⟨rfl, rfl, (by decide : 3 + 0 ≤ _), (by decide : 13 + 0 ≤ _)⟩)
            dsimp only [Pt.U, Pt.locs, Pt.cells, Pt.slots] at X96 l96 y96 z96 st96 hQ96
            subst l96 y96 z96
            obtain ⟨rfl, N96q, e96⟩ := hQ96
            have N96 := Fr.app N81 N96q
            refine Go.tr st96 ?_
            show Go p e below _ (T96.setTop (mkF m 180 #[.val (.int fi), .val (.int pv), .val (.long qv), .second, .val (.int av), .val (.int wv), .val (.int fl), .val (.ref b1), .val (.ref bc4), .val (.int (1 : Int32)), .val (.int (1 : Int32)), .val (.int (0 : Int32)), .val (.ref bh63), .val (.int (0 : Int32)), .val (.int (1 : Int32))] [(.int (1 : Int32))]))
            refine Go.st (fun _ kt => XS.iload X96.here hx rfl (hb hby at_180) rfl kt) ?_
            show Go p e below _ (T96.setTop (mkF m 182 #[.val (.int fi), .val (.int pv), .val (.long qv), .second, .val (.int av), .val (.int wv), .val (.int fl), .val (.ref b1), .val (.ref bc4), .val (.int (1 : Int32)), .val (.int (1 : Int32)), .val (.int (0 : Int32)), .val (.ref bh63), .val (.int (0 : Int32)), .val (.int (1 : Int32))] [(.int (1 : Int32)), (.int (1 : Int32))]))
            refine Go.st (fun _ kt => XS.icmpNo X96.here hx rfl (hb hby at_182) rfl (teq (by decide : (1 : Int32) = (1 : Int32))).2 kt) ?_
            show Go p e below _ (T96.setTop (mkF m 185 #[.val (.int fi), .val (.int pv), .val (.long qv), .second, .val (.int av), .val (.int wv), .val (.int fl), .val (.ref b1), .val (.ref bc4), .val (.int (1 : Int32)), .val (.int (1 : Int32)), .val (.int (0 : Int32)), .val (.ref bh63), .val (.int (0 : Int32)), .val (.int (1 : Int32))] []))
            refine Go.st (fun _ kt => XS.iconst X96.here hx rfl (hb hby at_185) kt) ?_
            show Go p e below _ (T96.setTop (mkF m 186 #[.val (.int fi), .val (.int pv), .val (.long qv), .second, .val (.int av), .val (.int wv), .val (.int fl), .val (.ref b1), .val (.ref bc4), .val (.int (1 : Int32)), .val (.int (1 : Int32)), .val (.int (0 : Int32)), .val (.ref bh63), .val (.int (0 : Int32)), .val (.int (1 : Int32))] [(.int (1 : Int32))]))
            refine Go.st (fun _ kt => XS.goto X96.here hx rfl (pc0 := 186) (pc' := 190) rfl (hb hby at_186) (by decide) (by decide) kt) ?_
            show Go p e below _ (T96.setTop (mkF m 190 #[.val (.int fi), .val (.int pv), .val (.long qv), .second, .val (.int av), .val (.int wv), .val (.int fl), .val (.ref b1), .val (.ref bc4), .val (.int (1 : Int32)), .val (.int (1 : Int32)), .val (.int (0 : Int32)), .val (.ref bh63), .val (.int (0 : Int32)), .val (.int (1 : Int32))] [(.int (1 : Int32))]))
            refine Go.retN X96 hx (t := .boolean) Bd.returns (by simp) (BodyLoose.notSynchronized Bd) (hb hby at_190) (Q := (Q_rm0 Z fi pv qv av wv fl h0 n0)) (by decide) (by decide) ?_
            show (Q_rm0 Z fi pv qv av wv fl h0 n0) _ T96.heap _
            rw [e96]
            exact ⟨rfl, N96⟩
        · refine Go.st (fun _ kt => XS.ifYes X81.here hx rfl (pc0 := 147) (pc' := 161) rfl (hb hby at_147) rfl ((if0 _ _).trans (feq hc147_91).2) (by decide) (by decide) kt) ?_
          show Go p e below _ (T81.setTop (mkF m 161 #[.val (.int fi), .val (.int pv), .val (.long qv), .second, .val (.int av), .val (.int wv), .val (.int fl), .val (.ref b1), .val (.ref bc4), .val (.int (1 : Int32)), .val (.int (1 : Int32)), .val (.int (0 : Int32)), .val (.ref bh63), .val (.int (0 : Int32)), .unset] []))
          refine Go.st (fun _ kt => XS.iconst X81.here hx rfl (hb hby at_161) kt) ?_
          show Go p e below _ (T81.setTop (mkF m 162 #[.val (.int fi), .val (.int pv), .val (.long qv), .second, .val (.int av), .val (.int wv), .val (.int fl), .val (.ref b1), .val (.ref bc4), .val (.int (1 : Int32)), .val (.int (1 : Int32)), .val (.int (0 : Int32)), .val (.ref bh63), .val (.int (0 : Int32)), .unset] [(.int (1 : Int32))]))
          refine Go.st (fun _ kt => XS.goto X81.here hx rfl (pc0 := 162) (pc' := 166) rfl (hb hby at_162) (by decide) (by decide) kt) ?_
          show Go p e below _ (T81.setTop (mkF m 166 #[.val (.int fi), .val (.int pv), .val (.long qv), .second, .val (.int av), .val (.int wv), .val (.int fl), .val (.ref b1), .val (.ref bc4), .val (.int (1 : Int32)), .val (.int (1 : Int32)), .val (.int (0 : Int32)), .val (.ref bh63), .val (.int (0 : Int32)), .unset] [(.int (1 : Int32))]))
          refine Go.st (fun _ kt => XS.istore X81.here hx rfl (hb hby at_166) rfl (l' := #[.val (.int fi), .val (.int pv), .val (.long qv), .second, .val (.int av), .val (.int wv), .val (.int fl), .val (.ref b1), .val (.ref bc4), .val (.int (1 : Int32)), .val (.int (1 : Int32)), .val (.int (0 : Int32)), .val (.ref bh63), .val (.int (0 : Int32)), .val (.int (1 : Int32))]) rfl kt) ?_
          show Go p e below _ (T81.setTop (mkF m 168 #[.val (.int fi), .val (.int pv), .val (.long qv), .second, .val (.int av), .val (.int wv), .val (.int fl), .val (.ref b1), .val (.ref bc4), .val (.int (1 : Int32)), .val (.int (1 : Int32)), .val (.int (0 : Int32)), .val (.ref bh63), .val (.int (0 : Int32)), .val (.int (1 : Int32))] []))
          refine Go.st (fun _ kt => XS.iload X81.here hx rfl (hb hby at_168) rfl kt) ?_
          show Go p e below _ (T81.setTop (mkF m 170 #[.val (.int fi), .val (.int pv), .val (.long qv), .second, .val (.int av), .val (.int wv), .val (.int fl), .val (.ref b1), .val (.ref bc4), .val (.int (1 : Int32)), .val (.int (1 : Int32)), .val (.int (0 : Int32)), .val (.ref bh63), .val (.int (0 : Int32)), .val (.int (1 : Int32))] [(.int (1 : Int32))]))
          refine Go.st (fun _ kt => XS.ifNo X81.here hx rfl (hb hby at_170) rfl ((if0 _ _).trans (feq (by decide : ¬ ((1 : Int32) = (0 : Int32)))).1) kt) ?_
          show Go p e below _ (T81.setTop (mkF m 173 #[.val (.int fi), .val (.int pv), .val (.long qv), .second, .val (.int av), .val (.int wv), .val (.int fl), .val (.ref b1), .val (.ref bc4), .val (.int (1 : Int32)), .val (.int (1 : Int32)), .val (.int (0 : Int32)), .val (.ref bh63), .val (.int (0 : Int32)), .val (.int (1 : Int32))] []))
          refine Go.st (fun _ kt => XS.aload X81.here hx rfl (hb hby at_173) rfl rfl kt) ?_
          show Go p e below _ (T81.setTop (mkF m 175 #[.val (.int fi), .val (.int pv), .val (.long qv), .second, .val (.int av), .val (.int wv), .val (.int fl), .val (.ref b1), .val (.ref bc4), .val (.int (1 : Int32)), .val (.int (1 : Int32)), .val (.int (0 : Int32)), .val (.ref bh63), .val (.int (0 : Int32)), .val (.int (1 : Int32))] [(.ref b1)]))
          refine Go.st (fun _ kt => XS.aload X81.here hx rfl (hb hby at_175) rfl rfl kt) ?_
          show Go p e below _ (T81.setTop (mkF m 177 #[.val (.int fi), .val (.int pv), .val (.long qv), .second, .val (.int av), .val (.int wv), .val (.int fl), .val (.ref b1), .val (.ref bc4), .val (.int (1 : Int32)), .val (.int (1 : Int32)), .val (.int (0 : Int32)), .val (.ref bh63), .val (.int (0 : Int32)), .val (.int (1 : Int32))] [(.ref bc4), (.ref b1)]))
          have f97 := (((((Fx4.keep K63q (ninS (Nat.ne_of_gt lt_b1_bc4) nin0)).keep K64q (ninS (Nat.ne_of_gt lt_b1_bc4) nin0)).keep K69q (ninS (Nat.ne_of_lt lt_bc4_bh63) nin0)).keep K76q (ninS (Nat.ne_of_gt lt_b1_bc4) nin0)).keep K81q (ninS (Nat.ne_of_gt lt_b1_bc4) nin0))
          obtain ⟨cq98, kq98, q98a, q98b, q98c⟩ := isOf hZ rfl E_k81
          obtain ⟨_, _, ⟨T98, L98, k98, n98⟩, -, X98, ⟨Lc98, hQ98, l98, y98, z98⟩, st98⟩ := X81.virtualBack hx (y := (⟨"com/example/manyhands/manyhands/crowd/Totals", "countedSince", "(Lcom/example/manyhands/manyhands/crowd/Totals;)Z"⟩ : MethodName)) (z := (⟨"com/example/manyhands/manyhands/crowd/Totals", "countedSince", "(Lcom/example/manyhands/manyhands/crowd/Totals;)Z"⟩ : MethodName)) hown (mvT hZ (hw _ (List.mem_of_getElem? (i := 31) rfl))) (mvT hZ (hw _ (List.mem_of_getElem? (i := 32) rfl))) (notFace_of_selects (args := #[]) (mvT hZ (hw _ (List.mem_of_getElem? (i := 34) rfl)))) (mvT hZ (hw _ (List.mem_of_getElem? (i := 34) rfl))) (mvT hZ (hw _ (List.mem_of_getElem? (i := 33) rfl))) (by decide) (backOf (W := 0) (rm6n l Z a0 hw [] b1 bc4 (own_c1 qv (own_c0 pv (own_c0 fi (0 : Int64)))) (own_c0 fi (0 : Int64)) T81.heap n0 Zs81 Fnk81 f97 (own_ne2 _ (Or.inl hc147_91))) hZ (hw _ (List.mem_of_getElem? (i := 35) rfl)) (hw _ (List.mem_of_getElem? (i := 2) rfl)) (by decide) (by decide)) q98a q98c (g := (mkF m 177 #[.val (.int fi), .val (.int pv), .val (.long qv), .second, .val (.int av), .val (.int wv), .val (.int fl), .val (.ref b1), .val (.ref bc4), .val (.int (1 : Int32)), .val (.int (1 : Int32)), .val (.int (0 : Int32)), .val (.ref bh63), .val (.int (0 : Int32)), .val (.int (1 : Int32))] [(.ref bc4), (.ref b1)])) rfl (by rw [hml]; rfl) (Steps.refl _) (argsL := [(.ref bc4)]) (rest := []) (lenOf own_pd8 rfl) rfl (by show 2 * 0 + _ ≤ _; exact Nat.le_of_eq rfl) (hb hby at_177) (fun _ _ => ⟨rfl, rfl, (by decide : 3 + 0 ≤ _), (by decide : 13 + 0 ≤ _)⟩)
          dsimp only [Pt.U, Pt.locs, Pt.cells, Pt.slots] at X98 l98 y98 z98 st98 hQ98
          subst l98 y98 z98
          obtain ⟨rfl, N98q, e98⟩ := hQ98
          have N98 := Fr.app N81 N98q
          refine Go.tr st98 ?_
          show Go p e below _ (T98.setTop (mkF m 180 #[.val (.int fi), .val (.int pv), .val (.long qv), .second, .val (.int av), .val (.int wv), .val (.int fl), .val (.ref b1), .val (.ref bc4), .val (.int (1 : Int32)), .val (.int (1 : Int32)), .val (.int (0 : Int32)), .val (.ref bh63), .val (.int (0 : Int32)), .val (.int (1 : Int32))] [(.int (1 : Int32))]))
          refine Go.st (fun _ kt => XS.iload X98.here hx rfl (hb hby at_180) rfl kt) ?_
          show Go p e below _ (T98.setTop (mkF m 182 #[.val (.int fi), .val (.int pv), .val (.long qv), .second, .val (.int av), .val (.int wv), .val (.int fl), .val (.ref b1), .val (.ref bc4), .val (.int (1 : Int32)), .val (.int (1 : Int32)), .val (.int (0 : Int32)), .val (.ref bh63), .val (.int (0 : Int32)), .val (.int (1 : Int32))] [(.int (1 : Int32)), (.int (1 : Int32))]))
          refine Go.st (fun _ kt => XS.icmpNo X98.here hx rfl (hb hby at_182) rfl (teq (by decide : (1 : Int32) = (1 : Int32))).2 kt) ?_
          show Go p e below _ (T98.setTop (mkF m 185 #[.val (.int fi), .val (.int pv), .val (.long qv), .second, .val (.int av), .val (.int wv), .val (.int fl), .val (.ref b1), .val (.ref bc4), .val (.int (1 : Int32)), .val (.int (1 : Int32)), .val (.int (0 : Int32)), .val (.ref bh63), .val (.int (0 : Int32)), .val (.int (1 : Int32))] []))
          refine Go.st (fun _ kt => XS.iconst X98.here hx rfl (hb hby at_185) kt) ?_
          show Go p e below _ (T98.setTop (mkF m 186 #[.val (.int fi), .val (.int pv), .val (.long qv), .second, .val (.int av), .val (.int wv), .val (.int fl), .val (.ref b1), .val (.ref bc4), .val (.int (1 : Int32)), .val (.int (1 : Int32)), .val (.int (0 : Int32)), .val (.ref bh63), .val (.int (0 : Int32)), .val (.int (1 : Int32))] [(.int (1 : Int32))]))
          refine Go.st (fun _ kt => XS.goto X98.here hx rfl (pc0 := 186) (pc' := 190) rfl (hb hby at_186) (by decide) (by decide) kt) ?_
          show Go p e below _ (T98.setTop (mkF m 190 #[.val (.int fi), .val (.int pv), .val (.long qv), .second, .val (.int av), .val (.int wv), .val (.int fl), .val (.ref b1), .val (.ref bc4), .val (.int (1 : Int32)), .val (.int (1 : Int32)), .val (.int (0 : Int32)), .val (.ref bh63), .val (.int (0 : Int32)), .val (.int (1 : Int32))] [(.int (1 : Int32))]))
          refine Go.retN X98 hx (t := .boolean) Bd.returns (by simp) (BodyLoose.notSynchronized Bd) (hb hby at_190) (Q := (Q_rm0 Z fi pv qv av wv fl h0 n0)) (by decide) (by decide) ?_
          show (Q_rm0 Z fi pv qv av wv fl h0 n0) _ T98.heap _
          rw [e98]
          exact ⟨rfl, N98⟩
    · refine Go.st (fun _ kt => XS.ifNo X6.here hx rfl (hb hby at_57) rfl ((if0 _ _).trans (feq hc57_58).1) kt) ?_
      show Go p e below _ (T6.setTop (mkF m 60 #[.val (.int fi), .val (.int pv), .val (.long qv), .second, .val (.int av), .val (.int wv), .val (.int fl), .val (.ref b1), .val (.ref bc4), .val (.int (1 : Int32)), .val (.int (1 : Int32)), .unset, .unset, .unset, .unset] []))
      refine Go.st (fun _ kt => XS.iconst X6.here hx rfl (hb hby at_60) kt) ?_
      show Go p e below _ (T6.setTop (mkF m 61 #[.val (.int fi), .val (.int pv), .val (.long qv), .second, .val (.int av), .val (.int wv), .val (.int fl), .val (.ref b1), .val (.ref bc4), .val (.int (1 : Int32)), .val (.int (1 : Int32)), .unset, .unset, .unset, .unset] [(.int (1 : Int32))]))
      refine Go.st (fun _ kt => XS.goto X6.here hx rfl (pc0 := 61) (pc' := 65) rfl (hb hby at_61) (by decide) (by decide) kt) ?_
      show Go p e below _ (T6.setTop (mkF m 65 #[.val (.int fi), .val (.int pv), .val (.long qv), .second, .val (.int av), .val (.int wv), .val (.int fl), .val (.ref b1), .val (.ref bc4), .val (.int (1 : Int32)), .val (.int (1 : Int32)), .unset, .unset, .unset, .unset] [(.int (1 : Int32))]))
      refine Go.st (fun _ kt => XS.istore X6.here hx rfl (hb hby at_65) rfl (l' := #[.val (.int fi), .val (.int pv), .val (.long qv), .second, .val (.int av), .val (.int wv), .val (.int fl), .val (.ref b1), .val (.ref bc4), .val (.int (1 : Int32)), .val (.int (1 : Int32)), .val (.int (1 : Int32)), .unset, .unset, .unset]) rfl kt) ?_
      show Go p e below _ (T6.setTop (mkF m 67 #[.val (.int fi), .val (.int pv), .val (.long qv), .second, .val (.int av), .val (.int wv), .val (.int fl), .val (.ref b1), .val (.ref bc4), .val (.int (1 : Int32)), .val (.int (1 : Int32)), .val (.int (1 : Int32)), .unset, .unset, .unset] []))
      refine Go.st (fun _ kt => XS.aconstNull X6.here hx rfl (hb hby at_67) kt) ?_
      show Go p e below _ (T6.setTop (mkF m 68 #[.val (.int fi), .val (.int pv), .val (.long qv), .second, .val (.int av), .val (.int wv), .val (.int fl), .val (.ref b1), .val (.ref bc4), .val (.int (1 : Int32)), .val (.int (1 : Int32)), .val (.int (1 : Int32)), .unset, .unset, .unset] [.null]))
      refine Go.st (fun _ kt => XS.astore X6.here hx rfl (hb hby at_68) rfl rfl (l' := #[.val (.int fi), .val (.int pv), .val (.long qv), .second, .val (.int av), .val (.int wv), .val (.int fl), .val (.ref b1), .val (.ref bc4), .val (.int (1 : Int32)), .val (.int (1 : Int32)), .val (.int (1 : Int32)), .val .null, .unset, .unset]) rfl kt) ?_
      show Go p e below _ (T6.setTop (mkF m 70 #[.val (.int fi), .val (.int pv), .val (.long qv), .second, .val (.int av), .val (.int wv), .val (.int fl), .val (.ref b1), .val (.ref bc4), .val (.int (1 : Int32)), .val (.int (1 : Int32)), .val (.int (1 : Int32)), .val .null, .unset, .unset] []))
      refine Go.st (fun _ kt => XS.iload X6.here hx rfl (hb hby at_70) rfl kt) ?_
      show Go p e below _ (T6.setTop (mkF m 72 #[.val (.int fi), .val (.int pv), .val (.long qv), .second, .val (.int av), .val (.int wv), .val (.int fl), .val (.ref b1), .val (.ref bc4), .val (.int (1 : Int32)), .val (.int (1 : Int32)), .val (.int (1 : Int32)), .val .null, .unset, .unset] [(.int (1 : Int32))]))
      refine Go.st (fun _ kt => XS.ifNo X6.here hx rfl (hb hby at_72) rfl ((if0 _ _).trans (feq (by decide : ¬ ((1 : Int32) = (0 : Int32)))).1) kt) ?_
      show Go p e below _ (T6.setTop (mkF m 75 #[.val (.int fi), .val (.int pv), .val (.long qv), .second, .val (.int av), .val (.int wv), .val (.int fl), .val (.ref b1), .val (.ref bc4), .val (.int (1 : Int32)), .val (.int (1 : Int32)), .val (.int (1 : Int32)), .val .null, .unset, .unset] []))
      refine Go.st (fun _ kt => XS.aload X6.here hx rfl (hb hby at_75) rfl rfl kt) ?_
      show Go p e below _ (T6.setTop (mkF m 77 #[.val (.int fi), .val (.int pv), .val (.long qv), .second, .val (.int av), .val (.int wv), .val (.int fl), .val (.ref b1), .val (.ref bc4), .val (.int (1 : Int32)), .val (.int (1 : Int32)), .val (.int (1 : Int32)), .val .null, .unset, .unset] [(.ref b1)]))
      have f99 := (Ftk3.keep K4q nin0)
      have f100 := (Fsk3.keep K4q nin0)
      have f101 := (Fck3.keep K4q nin0)
      have f102 := (Fhk3.keep K4q nin0)
      obtain ⟨cq103, kq103, q103a, q103b, q103c⟩ := isOf hZ e6 f7
      obtain ⟨_, _, ⟨T103, L103, k103, n103⟩, -, X103, ⟨Lc103, hQ103, l103, y103, z103⟩, st103⟩ := X6.virtualBack hx (y := (⟨"com/example/manyhands/manyhands/crowd/Totals", "hold", "()Lcom/example/manyhands/manyhands/crowd/Totals$Held;"⟩ : MethodName)) (z := (⟨"com/example/manyhands/manyhands/crowd/Totals", "hold", "()Lcom/example/manyhands/manyhands/crowd/Totals$Held;"⟩ : MethodName)) hown (mvT hZ (hw _ (List.mem_of_getElem? (i := 52) rfl))) (mvT hZ (hw _ (List.mem_of_getElem? (i := 53) rfl))) (notFace_of_selects (args := #[]) (mvT hZ (hw _ (List.mem_of_getElem? (i := 55) rfl)))) (mvT hZ (hw _ (List.mem_of_getElem? (i := 55) rfl))) (mvT hZ (hw _ (List.mem_of_getElem? (i := 54) rfl))) (by decide) (own_backSync (W := 0) (rm10 l Z a0 hw [] b1 (own_c0 fi (0 : Int64)) T4.heap n0 Zs4 ⟨f7, ⟨_, f99⟩, ⟨_, f100⟩, ⟨_, f101⟩, f5, f102⟩ U4q gn_b1) hZ (hw _ (List.mem_of_getElem? (i := 56) rfl)) (hw _ (List.mem_of_getElem? (i := 54) rfl)) (hw _ (List.mem_of_getElem? (i := 2) rfl)) U4q (by decide) (by decide)) q103a q103c (g := (mkF m 77 #[.val (.int fi), .val (.int pv), .val (.long qv), .second, .val (.int av), .val (.int wv), .val (.int fl), .val (.ref b1), .val (.ref bc4), .val (.int (1 : Int32)), .val (.int (1 : Int32)), .val (.int (1 : Int32)), .val .null, .unset, .unset] [(.ref b1)])) rfl (by rw [hml]; rfl) (Steps.refl _) (argsL := []) (rest := []) (lenOf own_pd10 rfl) rfl (by show 2 * 0 + _ ≤ _; exact Nat.le_of_eq rfl) (hb hby at_77) (fun _ _ => ⟨rfl, e6, (by decide : 2 + 1 ≤ _), (by decide : 10 + 3 ≤ _)⟩)
      dsimp only [Pt.U, Pt.locs, Pt.cells, Pt.slots] at X103 l103 y103 z103 st103 hQ103
      subst l103 y103 z103
      obtain ⟨bh103, rfl, N103q, K103q, U103q, gz103, P103, H103⟩ := hQ103
      have lt_b1_bh103 : b1 < bh103 := Nat.lt_of_lt_of_le f7.lt gz103
      have lt_bc4_bh103 : bc4 < bh103 := Nat.lt_of_lt_of_le Fx4.lt gz103
      have gn_bh103 : n0 ≤ bh103 := Nat.le_trans Zs4 gz103
      have Zs103 : n0 ≤ T103.heap.size := Nat.le_trans Zs4 K103q.1
      have N103 := Fr.app N6 N103q
      obtain ⟨E_k103, ⟨ztk103, Ftk103⟩, ⟨zsk103, Fsk103⟩, ⟨zck103, Fck103⟩, Fnk103, Fhk103⟩ := id P103
      obtain ⟨E_l103, F0l103, Fal103, ⟨zol103, Fol103⟩⟩ := id H103
      refine Go.tr st103 ?_
      show Go p e below _ (T103.setTop (mkF m 80 #[.val (.int fi), .val (.int pv), .val (.long qv), .second, .val (.int av), .val (.int wv), .val (.int fl), .val (.ref b1), .val (.ref bc4), .val (.int (1 : Int32)), .val (.int (1 : Int32)), .val (.int (1 : Int32)), .val .null, .unset, .unset] [(.ref bh103)]))
      refine Go.st (fun _ kt => XS.astore X103.here hx rfl (hb hby at_80) rfl rfl (l' := #[.val (.int fi), .val (.int pv), .val (.long qv), .second, .val (.int av), .val (.int wv), .val (.int fl), .val (.ref b1), .val (.ref bc4), .val (.int (1 : Int32)), .val (.int (1 : Int32)), .val (.int (1 : Int32)), .val (.ref bh103), .unset, .unset]) rfl kt) ?_
      show Go p e below _ (T103.setTop (mkF m 82 #[.val (.int fi), .val (.int pv), .val (.long qv), .second, .val (.int av), .val (.int wv), .val (.int fl), .val (.ref b1), .val (.ref bc4), .val (.int (1 : Int32)), .val (.int (1 : Int32)), .val (.int (1 : Int32)), .val (.ref bh103), .unset, .unset] []))
      refine Go.st (fun _ kt => XS.aload X103.here hx rfl (hb hby at_82) rfl rfl kt) ?_
      show Go p e below _ (T103.setTop (mkF m 84 #[.val (.int fi), .val (.int pv), .val (.long qv), .second, .val (.int av), .val (.int wv), .val (.int fl), .val (.ref b1), .val (.ref bc4), .val (.int (1 : Int32)), .val (.int (1 : Int32)), .val (.int (1 : Int32)), .val (.ref bh103), .unset, .unset] [(.ref b1)]))
      refine Go.st (fun _ kt => XS.iloadN X103.here hx rfl (hb hby at_84) rfl kt) ?_
      show Go p e below _ (T103.setTop (mkF m 85 #[.val (.int fi), .val (.int pv), .val (.long qv), .second, .val (.int av), .val (.int wv), .val (.int fl), .val (.ref b1), .val (.ref bc4), .val (.int (1 : Int32)), .val (.int (1 : Int32)), .val (.int (1 : Int32)), .val (.ref bh103), .unset, .unset] [(.int pv), (.ref b1)]))
      obtain ⟨cq104, kq104, q104a, q104b, q104c⟩ := isOf hZ rfl E_k103
      obtain ⟨_, _, ⟨T104, L104, k104, n104⟩, -, X104, ⟨Lc104, hQ104, l104, y104, z104⟩, st104⟩ := X103.virtualBack hx (y := (⟨"com/example/manyhands/manyhands/crowd/Totals", "addTasks", "(I)V"⟩ : MethodName)) (z := (⟨"com/example/manyhands/manyhands/crowd/Totals", "addTasks", "(I)V"⟩ : MethodName)) hown (mvT hZ (hw _ (List.mem_of_getElem? (i := 9) rfl))) (mvT hZ (hw _ (List.mem_of_getElem? (i := 10) rfl))) (notFace_of_selects (args := #[]) (mvT hZ (hw _ (List.mem_of_getElem? (i := 12) rfl)))) (mvT hZ (hw _ (List.mem_of_getElem? (i := 12) rfl))) (mvT hZ (hw _ (List.mem_of_getElem? (i := 11) rfl))) (by decide) (own_backSync (W := 0) (rm3 l Z a0 hw [] b1 pv (own_c0 fi (0 : Int64)) (.ref bh103) T103.heap n0 Zs103 ⟨E_k103, ⟨_, Ftk103⟩, ⟨_, Fsk103⟩, ⟨_, Fck103⟩, Fnk103, Fhk103⟩ U103q gn_b1) hZ (hw _ (List.mem_of_getElem? (i := 13) rfl)) (hw _ (List.mem_of_getElem? (i := 11) rfl)) (hw _ (List.mem_of_getElem? (i := 2) rfl)) U103q (by decide) (by decide)) q104a q104c (g := (mkF m 85 #[.val (.int fi), .val (.int pv), .val (.long qv), .second, .val (.int av), .val (.int wv), .val (.int fl), .val (.ref b1), .val (.ref bc4), .val (.int (1 : Int32)), .val (.int (1 : Int32)), .val (.int (1 : Int32)), .val (.ref bh103), .unset, .unset] [(.int pv), (.ref b1)])) rfl (by rw [hml]; rfl) (Steps.refl _) (argsL := [(.int pv)]) (rest := []) (lenOf own_pd6 rfl) rfl (by show 2 * 0 + _ ≤ _; exact Nat.le_of_eq rfl) (hb hby at_85) (fun _ _ => ⟨rfl, rfl, (by decide : 3 + 0 ≤ _), (by decide : 13 + 0 ≤ _)⟩)
      dsimp only [Pt.U, Pt.locs, Pt.cells, Pt.slots] at X104 l104 y104 z104 st104 hQ104
      subst l104 y104 z104
      obtain ⟨rfl, N104q, K104q, U104q, P104⟩ := hQ104
      have Zs104 : n0 ≤ T104.heap.size := Nat.le_trans Zs103 K104q.1
      have N104 := Fr.app N103 N104q
      obtain ⟨E_k104, ⟨ztk104, Ftk104⟩, ⟨zsk104, Fsk104⟩, ⟨zck104, Fck104⟩, Fnk104, Fhk104⟩ := id P104
      refine Go.tr st104 ?_
      show Go p e below _ (T104.setTop (mkF m 88 #[.val (.int fi), .val (.int pv), .val (.long qv), .second, .val (.int av), .val (.int wv), .val (.int fl), .val (.ref b1), .val (.ref bc4), .val (.int (1 : Int32)), .val (.int (1 : Int32)), .val (.int (1 : Int32)), .val (.ref bh103), .unset, .unset] []))
      refine Go.st (fun _ kt => XS.aload X104.here hx rfl (hb hby at_88) rfl rfl kt) ?_
      show Go p e below _ (T104.setTop (mkF m 90 #[.val (.int fi), .val (.int pv), .val (.long qv), .second, .val (.int av), .val (.int wv), .val (.int fl), .val (.ref b1), .val (.ref bc4), .val (.int (1 : Int32)), .val (.int (1 : Int32)), .val (.int (1 : Int32)), .val (.ref bh103), .unset, .unset] [(.ref b1)]))
      refine Go.st (fun _ kt => XS.iload X104.here hx rfl (hb hby at_90) rfl kt) ?_
      show Go p e below _ (T104.setTop (mkF m 92 #[.val (.int fi), .val (.int pv), .val (.long qv), .second, .val (.int av), .val (.int wv), .val (.int fl), .val (.ref b1), .val (.ref bc4), .val (.int (1 : Int32)), .val (.int (1 : Int32)), .val (.int (1 : Int32)), .val (.ref bh103), .unset, .unset] [(.int av), (.ref b1)]))
      refine Go.st (fun _ kt => XS.iload X104.here hx rfl (hb hby at_92) rfl kt) ?_
      show Go p e below _ (T104.setTop (mkF m 94 #[.val (.int fi), .val (.int pv), .val (.long qv), .second, .val (.int av), .val (.int wv), .val (.int fl), .val (.ref b1), .val (.ref bc4), .val (.int (1 : Int32)), .val (.int (1 : Int32)), .val (.int (1 : Int32)), .val (.ref bh103), .unset, .unset] [(.int wv), (.int av), (.ref b1)]))
      have f105 := (E_l103.keep K104q)
      have f106 := (F0l103.keep K104q (ninS (Nat.ne_of_gt lt_b1_bh103) nin0))
      have f107 := (Fal103.keep K104q (ninS (Nat.ne_of_gt lt_b1_bh103) nin0))
      have f108 := (Fol103.keep K104q (ninS (Nat.ne_of_gt lt_b1_bh103) nin0))
      obtain ⟨cq109, kq109, q109a, q109b, q109c⟩ := isOf hZ rfl E_k104
      obtain ⟨_, _, ⟨T109, L109, k109, n109⟩, -, X109, ⟨Lc109, hQ109, l109, y109, z109⟩, st109⟩ := X104.virtualBack hx (y := (⟨"com/example/manyhands/manyhands/crowd/Totals", "addAnswers", "(II)V"⟩ : MethodName)) (z := (⟨"com/example/manyhands/manyhands/crowd/Totals", "addAnswers", "(II)V"⟩ : MethodName)) hown (mvT hZ (hw _ (List.mem_of_getElem? (i := 36) rfl))) (mvT hZ (hw _ (List.mem_of_getElem? (i := 37) rfl))) (notFace_of_selects (args := #[]) (mvT hZ (hw _ (List.mem_of_getElem? (i := 39) rfl)))) (mvT hZ (hw _ (List.mem_of_getElem? (i := 39) rfl))) (mvT hZ (hw _ (List.mem_of_getElem? (i := 38) rfl))) (by decide) (own_backSync (W := 0) (rm7h l Z a0 hw [] b1 av wv bh103 (own_c0 pv (own_c0 fi (0 : Int64))) (0 : Int64) T104.heap n0 Zs104 ⟨E_k104, ⟨_, Ftk104⟩, ⟨_, Fsk104⟩, ⟨_, Fck104⟩, Fnk104, Fhk104⟩ ⟨f105, f106, f107, ⟨_, f108⟩⟩ U104q gn_b1 gn_bh103 (Nat.ne_of_lt lt_b1_bh103)) hZ (hw _ (List.mem_of_getElem? (i := 40) rfl)) (hw _ (List.mem_of_getElem? (i := 38) rfl)) (hw _ (List.mem_of_getElem? (i := 2) rfl)) U104q (by decide) (by decide)) q109a q109c (g := (mkF m 94 #[.val (.int fi), .val (.int pv), .val (.long qv), .second, .val (.int av), .val (.int wv), .val (.int fl), .val (.ref b1), .val (.ref bc4), .val (.int (1 : Int32)), .val (.int (1 : Int32)), .val (.int (1 : Int32)), .val (.ref bh103), .unset, .unset] [(.int wv), (.int av), (.ref b1)])) rfl (by rw [hml]; rfl) (Steps.refl _) (argsL := [(.int av), (.int wv)]) (rest := []) (lenOf own_pd9 rfl) rfl (by show 2 * 0 + _ ≤ _; exact Nat.le_of_eq rfl) (hb hby at_94) (fun _ _ => ⟨rfl, rfl, (by decide : 3 + 0 ≤ _), (by decide : 13 + 0 ≤ _)⟩)
      dsimp only [Pt.U, Pt.locs, Pt.cells, Pt.slots] at X109 l109 y109 z109 st109 hQ109
      subst l109 y109 z109
      obtain ⟨rfl, N109q, K109q, U109q, P109⟩ := hQ109
      have Zs109 : n0 ≤ T109.heap.size := Nat.le_trans Zs104 K109q.1
      have N109 := Fr.app N104 N109q
      obtain ⟨E_l109, F0l109, Fal109, ⟨zol109, Fol109⟩⟩ := id P109
      refine Go.tr st109 ?_
      show Go p e below _ (T109.setTop (mkF m 97 #[.val (.int fi), .val (.int pv), .val (.long qv), .second, .val (.int av), .val (.int wv), .val (.int fl), .val (.ref b1), .val (.ref bc4), .val (.int (1 : Int32)), .val (.int (1 : Int32)), .val (.int (1 : Int32)), .val (.ref bh103), .unset, .unset] []))
      refine Go.st (fun _ kt => XS.aload X109.here hx rfl (hb hby at_97) rfl rfl kt) ?_
      show Go p e below _ (T109.setTop (mkF m 99 #[.val (.int fi), .val (.int pv), .val (.long qv), .second, .val (.int av), .val (.int wv), .val (.int fl), .val (.ref b1), .val (.ref bc4), .val (.int (1 : Int32)), .val (.int (1 : Int32)), .val (.int (1 : Int32)), .val (.ref bh103), .unset, .unset] [(.ref b1)]))
      refine Go.st (fun _ kt => XS.lloadN X109.here hx rfl (hb hby at_99) rfl kt) ?_
      show Go p e below _ (T109.setTop (mkF m 100 #[.val (.int fi), .val (.int pv), .val (.long qv), .second, .val (.int av), .val (.int wv), .val (.int fl), .val (.ref b1), .val (.ref bc4), .val (.int (1 : Int32)), .val (.int (1 : Int32)), .val (.int (1 : Int32)), .val (.ref bh103), .unset, .unset] [(.long qv), (.ref b1)]))
      refine Go.st (fun _ kt => XS.lconst X109.here hx rfl (hb hby at_100) kt) ?_
      show Go p e below _ (T109.setTop (mkF m 101 #[.val (.int fi), .val (.int pv), .val (.long qv), .second, .val (.int av), .val (.int wv), .val (.int fl), .val (.ref b1), .val (.ref bc4), .val (.int (1 : Int32)), .val (.int (1 : Int32)), .val (.int (1 : Int32)), .val (.ref bh103), .unset, .unset] [(.long (0 : Int64)), (.long qv), (.ref b1)]))
      have f110 := (E_k104.keep K109q)
      have f111 := (Ftk104.keep K109q (ninS (Nat.ne_of_lt lt_b1_bh103) nin0))
      have f112 := (Fsk104.keep K109q (ninS (Nat.ne_of_lt lt_b1_bh103) nin0))
      have f113 := (Fck104.keep K109q (ninS (Nat.ne_of_lt lt_b1_bh103) nin0))
      have f114 := (Fnk104.keep K109q (ninS (Nat.ne_of_lt lt_b1_bh103) nin0))
      have f115 := (Fhk104.keep K109q (ninS (Nat.ne_of_lt lt_b1_bh103) nin0))
      obtain ⟨cq116, kq116, q116a, q116b, q116c⟩ := isOf hZ rfl f110
      obtain ⟨_, _, ⟨T116, L116, k116, n116⟩, -, X116, ⟨Lc116, hQ116, l116, y116, z116⟩, st116⟩ := X109.virtualBack hx (y := (⟨"com/example/manyhands/manyhands/crowd/Totals", "addKeptEarlier", "(JJ)V"⟩ : MethodName)) (z := (⟨"com/example/manyhands/manyhands/crowd/Totals", "addKeptEarlier", "(JJ)V"⟩ : MethodName)) hown (mvT hZ (hw _ (List.mem_of_getElem? (i := 47) rfl))) (mvT hZ (hw _ (List.mem_of_getElem? (i := 48) rfl))) (notFace_of_selects (args := #[]) (mvT hZ (hw _ (List.mem_of_getElem? (i := 50) rfl)))) (mvT hZ (hw _ (List.mem_of_getElem? (i := 50) rfl))) (mvT hZ (hw _ (List.mem_of_getElem? (i := 49) rfl))) (by decide) (own_backSync (W := 0) (rm9 l Z a0 hw [] b1 qv (0 : Int64) (own_c0 pv (own_c0 fi (0 : Int64))) (.ref bh103) T109.heap n0 Zs109 ⟨f110, ⟨_, f111⟩, ⟨_, f112⟩, ⟨_, f113⟩, f114, f115⟩ U109q gn_b1) hZ (hw _ (List.mem_of_getElem? (i := 51) rfl)) (hw _ (List.mem_of_getElem? (i := 49) rfl)) (hw _ (List.mem_of_getElem? (i := 2) rfl)) U109q (by decide) (by decide)) q116a q116c (g := (mkF m 101 #[.val (.int fi), .val (.int pv), .val (.long qv), .second, .val (.int av), .val (.int wv), .val (.int fl), .val (.ref b1), .val (.ref bc4), .val (.int (1 : Int32)), .val (.int (1 : Int32)), .val (.int (1 : Int32)), .val (.ref bh103), .unset, .unset] [(.long (0 : Int64)), (.long qv), (.ref b1)])) rfl (by rw [hml]; rfl) (Steps.refl _) (argsL := [(.long qv), (.long (0 : Int64))]) (rest := []) (lenOf own_pd2 rfl) rfl (by show 2 * 0 + _ ≤ _; exact Nat.le_of_eq rfl) (hb hby at_101) (fun _ _ => ⟨rfl, rfl, (by decide : 3 + 0 ≤ _), (by decide : 13 + 0 ≤ _)⟩)
      dsimp only [Pt.U, Pt.locs, Pt.cells, Pt.slots] at X116 l116 y116 z116 st116 hQ116
      subst l116 y116 z116
      obtain ⟨rfl, N116q, K116q, U116q, P116⟩ := hQ116
      have Zs116 : n0 ≤ T116.heap.size := Nat.le_trans Zs109 K116q.1
      have N116 := Fr.app N109 N116q
      obtain ⟨E_k116, ⟨ztk116, Ftk116⟩, ⟨zsk116, Fsk116⟩, ⟨zck116, Fck116⟩, Fnk116, Fhk116⟩ := id P116
      refine Go.tr st116 ?_
      show Go p e below _ (T116.setTop (mkF m 104 #[.val (.int fi), .val (.int pv), .val (.long qv), .second, .val (.int av), .val (.int wv), .val (.int fl), .val (.ref b1), .val (.ref bc4), .val (.int (1 : Int32)), .val (.int (1 : Int32)), .val (.int (1 : Int32)), .val (.ref bh103), .unset, .unset] []))
      refine Go.st (fun _ kt => XS.iload X116.here hx rfl (hb hby at_104) rfl kt) ?_
      show Go p e below _ (T116.setTop (mkF m 106 #[.val (.int fi), .val (.int pv), .val (.long qv), .second, .val (.int av), .val (.int wv), .val (.int fl), .val (.ref b1), .val (.ref bc4), .val (.int (1 : Int32)), .val (.int (1 : Int32)), .val (.int (1 : Int32)), .val (.ref bh103), .unset, .unset] [(.int (1 : Int32))]))
      refine Go.st (fun _ kt => XS.ifNo X116.here hx rfl (hb hby at_106) rfl ((if0 _ _).trans (feq (by decide : ¬ ((1 : Int32) = (0 : Int32)))).1) kt) ?_
      show Go p e below _ (T116.setTop (mkF m 109 #[.val (.int fi), .val (.int pv), .val (.long qv), .second, .val (.int av), .val (.int wv), .val (.int fl), .val (.ref b1), .val (.ref bc4), .val (.int (1 : Int32)), .val (.int (1 : Int32)), .val (.int (1 : Int32)), .val (.ref bh103), .unset, .unset] []))
      refine Go.st (fun _ kt => XS.iload X116.here hx rfl (hb hby at_109) rfl kt) ?_
      show Go p e below _ (T116.setTop (mkF m 111 #[.val (.int fi), .val (.int pv), .val (.long qv), .second, .val (.int av), .val (.int wv), .val (.int fl), .val (.ref b1), .val (.ref bc4), .val (.int (1 : Int32)), .val (.int (1 : Int32)), .val (.int (1 : Int32)), .val (.ref bh103), .unset, .unset] [(.int (1 : Int32))]))
      refine Go.st (fun _ kt => XS.ifNo X116.here hx rfl (hb hby at_111) rfl ((if0 _ _).trans (feq (by decide : ¬ ((1 : Int32) = (0 : Int32)))).1) kt) ?_
      show Go p e below _ (T116.setTop (mkF m 114 #[.val (.int fi), .val (.int pv), .val (.long qv), .second, .val (.int av), .val (.int wv), .val (.int fl), .val (.ref b1), .val (.ref bc4), .val (.int (1 : Int32)), .val (.int (1 : Int32)), .val (.int (1 : Int32)), .val (.ref bh103), .unset, .unset] []))
      refine Go.st (fun _ kt => XS.aload X116.here hx rfl (hb hby at_114) rfl rfl kt) ?_
      show Go p e below _ (T116.setTop (mkF m 116 #[.val (.int fi), .val (.int pv), .val (.long qv), .second, .val (.int av), .val (.int wv), .val (.int fl), .val (.ref b1), .val (.ref bc4), .val (.int (1 : Int32)), .val (.int (1 : Int32)), .val (.int (1 : Int32)), .val (.ref bh103), .unset, .unset] [(.ref bh103)]))
      have f117 := (E_l109.keep K116q)
      have f118 := (F0l109.keep K116q (ninS (Nat.ne_of_gt lt_b1_bh103) nin0))
      have f119 := (Fal109.keep K116q (ninS (Nat.ne_of_gt lt_b1_bh103) nin0))
      have f120 := (Fol109.keep K116q (ninS (Nat.ne_of_gt lt_b1_bh103) nin0))
      obtain ⟨cq121, kq121, q121a, q121b, q121c⟩ := isOf hZ rfl f117
      obtain ⟨_, _, ⟨T121, L121, k121, n121⟩, -, X121, ⟨Lc121, hQ121, l121, y121, z121⟩, st121⟩ := X116.virtualBack hx (y := (⟨"com/example/manyhands/manyhands/crowd/Totals$Held", "count", "()V"⟩ : MethodName)) (z := (⟨"com/example/manyhands/manyhands/crowd/Totals$Held", "count", "()V"⟩ : MethodName)) hown (mvT hZ (hw _ (List.mem_of_getElem? (i := 70) rfl))) (mvT hZ (hw _ (List.mem_of_getElem? (i := 71) rfl))) (notFace_of_selects (args := #[]) (mvT hZ (hw _ (List.mem_of_getElem? (i := 73) rfl)))) (mvT hZ (hw _ (List.mem_of_getElem? (i := 73) rfl))) (mvT hZ (hw _ (List.mem_of_getElem? (i := 72) rfl))) (by decide) (backOfWith (W := 0) (rm12 l Z a0 hw [] bh103 b1 (own_c1 qv (own_c0 pv (own_c0 fi (0 : Int64)))) (.ref bh103) ((0 : Int64) + av.toInt64) T116.heap n0 Zs116 ⟨f117, f118, f119, ⟨_, f120⟩⟩ ⟨E_k116, ⟨_, Ftk116⟩, ⟨_, Fsk116⟩, ⟨_, Fck116⟩, Fnk116, Fhk116⟩ U116q gn_bh103 gn_b1 (Nat.ne_of_lt lt_b1_bh103)) hZ (hw _ (List.mem_of_getElem? (i := 74) rfl)) (hw _ (List.mem_of_getElem? (i := 59) rfl)) (by decide) (by decide)) q121a q121c (g := (mkF m 116 #[.val (.int fi), .val (.int pv), .val (.long qv), .second, .val (.int av), .val (.int wv), .val (.int fl), .val (.ref b1), .val (.ref bc4), .val (.int (1 : Int32)), .val (.int (1 : Int32)), .val (.int (1 : Int32)), .val (.ref bh103), .unset, .unset] [(.ref bh103)])) rfl (by rw [hml]; rfl) (Steps.refl _) (argsL := []) (rest := []) (lenOf own_pd5 rfl) rfl (by show 2 * 0 + _ ≤ _; exact Nat.le_of_eq rfl) (hb hby at_116) (fun _ _ => ⟨rfl, rfl, (by decide : 3 + 0 ≤ _), (by decide : 13 + 0 ≤ _)⟩)
      dsimp only [Pt.U, Pt.locs, Pt.cells, Pt.slots] at X121 l121 y121 z121 st121 hQ121
      subst l121 y121 z121
      obtain ⟨rfl, N121q, K121q, U121q, P121, H121⟩ := hQ121
      have Zs121 : n0 ≤ T121.heap.size := Nat.le_trans Zs116 K121q.1
      have N121 := Fr.app N116 N121q
      obtain ⟨E_k121, ⟨ztk121, Ftk121⟩, ⟨zsk121, Fsk121⟩, ⟨zck121, Fck121⟩, Fnk121, Fhk121⟩ := id P121
      obtain ⟨E_l121, F0l121, Fal121, ⟨zol121, Fol121⟩⟩ := id H121
      refine Go.tr st121 ?_
      show Go p e below _ (T121.setTop (mkF m 119 #[.val (.int fi), .val (.int pv), .val (.long qv), .second, .val (.int av), .val (.int wv), .val (.int fl), .val (.ref b1), .val (.ref bc4), .val (.int (1 : Int32)), .val (.int (1 : Int32)), .val (.int (1 : Int32)), .val (.ref bh103), .unset, .unset] []))
      refine Go.st (fun _ kt => XS.aload X121.here hx rfl (hb hby at_119) rfl rfl kt) ?_
      show Go p e below _ (T121.setTop (mkF m 121 #[.val (.int fi), .val (.int pv), .val (.long qv), .second, .val (.int av), .val (.int wv), .val (.int fl), .val (.ref b1), .val (.ref bc4), .val (.int (1 : Int32)), .val (.int (1 : Int32)), .val (.int (1 : Int32)), .val (.ref bh103), .unset, .unset] [(.ref bh103)]))
      obtain ⟨cq122, kq122, q122a, q122b, q122c⟩ := isOf hZ rfl E_l121
      obtain ⟨_, _, ⟨T122, L122, k122, n122⟩, -, X122, ⟨Lc122, hQ122, l122, y122, z122⟩, st122⟩ := X121.virtualBack hx (y := (⟨"com/example/manyhands/manyhands/crowd/Totals$Held", "close", "()V"⟩ : MethodName)) (z := (⟨"com/example/manyhands/manyhands/crowd/Totals$Held", "close", "()V"⟩ : MethodName)) hown (mvT hZ (hw _ (List.mem_of_getElem? (i := 78) rfl))) (mvT hZ (hw _ (List.mem_of_getElem? (i := 79) rfl))) (notFace_of_selects (args := #[]) (mvT hZ (hw _ (List.mem_of_getElem? (i := 81) rfl)))) (mvT hZ (hw _ (List.mem_of_getElem? (i := 81) rfl))) (mvT hZ (hw _ (List.mem_of_getElem? (i := 80) rfl))) (by decide) (backOfWith (W := 0) (rm13 l Z a0 hw [] bh103 b1 (own_c1 ((0 : Int64) + av.toInt64) (own_c1 qv (own_c0 pv (own_c0 fi (0 : Int64))))) (.ref bh103) (0 : Int64) T121.heap n0 Zs121 ⟨E_l121, F0l121, Fal121, ⟨_, Fol121⟩⟩ ⟨E_k121, ⟨_, Ftk121⟩, ⟨_, Fsk121⟩, ⟨_, Fck121⟩, Fnk121, Fhk121⟩ U121q gn_bh103 gn_b1 (Nat.ne_of_lt lt_b1_bh103)) hZ (hw _ (List.mem_of_getElem? (i := 82) rfl)) (hw _ (List.mem_of_getElem? (i := 59) rfl)) (by decide) (by decide)) q122a q122c (g := (mkF m 121 #[.val (.int fi), .val (.int pv), .val (.long qv), .second, .val (.int av), .val (.int wv), .val (.int fl), .val (.ref b1), .val (.ref bc4), .val (.int (1 : Int32)), .val (.int (1 : Int32)), .val (.int (1 : Int32)), .val (.ref bh103), .unset, .unset] [(.ref bh103)])) rfl (by rw [hml]; rfl) (Steps.refl _) (argsL := []) (rest := []) (lenOf own_pd5 rfl) rfl (by show 2 * 0 + _ ≤ _; exact Nat.le_of_eq rfl) (hb hby at_121) (fun _ _ => ⟨rfl, rfl, (by decide : 3 + 0 ≤ _), (by decide : 13 + 0 ≤ _)⟩)
      dsimp only [Pt.U, Pt.locs, Pt.cells, Pt.slots] at X122 l122 y122 z122 st122 hQ122
      subst l122 y122 z122
      obtain ⟨rfl, N122q, K122q, U122q, P122⟩ := hQ122
      have Zs122 : n0 ≤ T122.heap.size := Nat.le_trans Zs121 K122q.1
      have N122 := Fr.app N121 N122q
      obtain ⟨E_k122, ⟨ztk122, Ftk122⟩, ⟨zsk122, Fsk122⟩, ⟨zck122, Fck122⟩, Fnk122, Fhk122⟩ := id P122
      refine Go.tr st122 ?_
      show Go p e below _ (T122.setTop (mkF m 124 #[.val (.int fi), .val (.int pv), .val (.long qv), .second, .val (.int av), .val (.int wv), .val (.int fl), .val (.ref b1), .val (.ref bc4), .val (.int (1 : Int32)), .val (.int (1 : Int32)), .val (.int (1 : Int32)), .val (.ref bh103), .unset, .unset] []))
      refine Go.st (fun _ kt => XS.iload X122.here hx rfl (hb hby at_124) rfl kt) ?_
      show Go p e below _ (T122.setTop (mkF m 126 #[.val (.int fi), .val (.int pv), .val (.long qv), .second, .val (.int av), .val (.int wv), .val (.int fl), .val (.ref b1), .val (.ref bc4), .val (.int (1 : Int32)), .val (.int (1 : Int32)), .val (.int (1 : Int32)), .val (.ref bh103), .unset, .unset] [(.int av)]))
      by_cases hc126_123 : av = (0 : Int32)
      · refine Go.st (fun _ kt => XS.ifYes X122.here hx rfl (pc0 := 126) (pc' := 143) rfl (hb hby at_126) rfl ((if0 _ _).trans (teq hc126_123).1) (by decide) (by decide) kt) ?_
        show Go p e below _ (T122.setTop (mkF m 143 #[.val (.int fi), .val (.int pv), .val (.long qv), .second, .val (.int av), .val (.int wv), .val (.int fl), .val (.ref b1), .val (.ref bc4), .val (.int (1 : Int32)), .val (.int (1 : Int32)), .val (.int (1 : Int32)), .val (.ref bh103), .unset, .unset] []))
        refine Go.st (fun _ kt => XS.iconst X122.here hx rfl (hb hby at_143) kt) ?_
        show Go p e below _ (T122.setTop (mkF m 144 #[.val (.int fi), .val (.int pv), .val (.long qv), .second, .val (.int av), .val (.int wv), .val (.int fl), .val (.ref b1), .val (.ref bc4), .val (.int (1 : Int32)), .val (.int (1 : Int32)), .val (.int (1 : Int32)), .val (.ref bh103), .unset, .unset] [(.int (0 : Int32))]))
        refine Go.st (fun _ kt => XS.istore X122.here hx rfl (hb hby at_144) rfl (l' := #[.val (.int fi), .val (.int pv), .val (.long qv), .second, .val (.int av), .val (.int wv), .val (.int fl), .val (.ref b1), .val (.ref bc4), .val (.int (1 : Int32)), .val (.int (1 : Int32)), .val (.int (1 : Int32)), .val (.ref bh103), .val (.int (0 : Int32)), .unset]) rfl kt) ?_
        show Go p e below _ (T122.setTop (mkF m 146 #[.val (.int fi), .val (.int pv), .val (.long qv), .second, .val (.int av), .val (.int wv), .val (.int fl), .val (.ref b1), .val (.ref bc4), .val (.int (1 : Int32)), .val (.int (1 : Int32)), .val (.int (1 : Int32)), .val (.ref bh103), .val (.int (0 : Int32)), .unset] []))
        refine Go.st (fun _ kt => XS.iloadN X122.here hx rfl (hb hby at_146) rfl kt) ?_
        show Go p e below _ (T122.setTop (mkF m 147 #[.val (.int fi), .val (.int pv), .val (.long qv), .second, .val (.int av), .val (.int wv), .val (.int fl), .val (.ref b1), .val (.ref bc4), .val (.int (1 : Int32)), .val (.int (1 : Int32)), .val (.int (1 : Int32)), .val (.ref bh103), .val (.int (0 : Int32)), .unset] [(.int pv)]))
        by_cases hc147_124 : pv = (0 : Int32)
        · refine Go.st (fun _ kt => XS.ifNo X122.here hx rfl (hb hby at_147) rfl ((if0 _ _).trans (teq hc147_124).2) kt) ?_
          show Go p e below _ (T122.setTop (mkF m 150 #[.val (.int fi), .val (.int pv), .val (.long qv), .second, .val (.int av), .val (.int wv), .val (.int fl), .val (.ref b1), .val (.ref bc4), .val (.int (1 : Int32)), .val (.int (1 : Int32)), .val (.int (1 : Int32)), .val (.ref bh103), .val (.int (0 : Int32)), .unset] []))
          refine Go.st (fun _ kt => XS.lloadN X122.here hx rfl (hb hby at_150) rfl kt) ?_
          show Go p e below _ (T122.setTop (mkF m 151 #[.val (.int fi), .val (.int pv), .val (.long qv), .second, .val (.int av), .val (.int wv), .val (.int fl), .val (.ref b1), .val (.ref bc4), .val (.int (1 : Int32)), .val (.int (1 : Int32)), .val (.int (1 : Int32)), .val (.ref bh103), .val (.int (0 : Int32)), .unset] [(.long qv)]))
          refine Go.st (fun _ kt => XS.lconst X122.here hx rfl (hb hby at_151) kt) ?_
          show Go p e below _ (T122.setTop (mkF m 152 #[.val (.int fi), .val (.int pv), .val (.long qv), .second, .val (.int av), .val (.int wv), .val (.int fl), .val (.ref b1), .val (.ref bc4), .val (.int (1 : Int32)), .val (.int (1 : Int32)), .val (.int (1 : Int32)), .val (.ref bh103), .val (.int (0 : Int32)), .unset] [(.long (0 : Int64)), (.long qv)]))
          refine Go.st (fun _ kt => XS.lcmp X122.here hx rfl (hb hby at_152) rfl kt) ?_
          show Go p e below _ (T122.setTop (mkF m 153 #[.val (.int fi), .val (.int pv), .val (.long qv), .second, .val (.int av), .val (.int wv), .val (.int fl), .val (.ref b1), .val (.ref bc4), .val (.int (1 : Int32)), .val (.int (1 : Int32)), .val (.int (1 : Int32)), .val (.ref bh103), .val (.int (0 : Int32)), .unset] [(.int (lcmpW qv (0 : Int64)))]))
          by_cases hc153_125 : (lcmpW qv (0 : Int64)) = (0 : Int32)
          · refine Go.st (fun _ kt => XS.ifNo X122.here hx rfl (hb hby at_153) rfl ((if0 _ _).trans (teq hc153_125).2) kt) ?_
            show Go p e below _ (T122.setTop (mkF m 156 #[.val (.int fi), .val (.int pv), .val (.long qv), .second, .val (.int av), .val (.int wv), .val (.int fl), .val (.ref b1), .val (.ref bc4), .val (.int (1 : Int32)), .val (.int (1 : Int32)), .val (.int (1 : Int32)), .val (.ref bh103), .val (.int (0 : Int32)), .unset] []))
            refine Go.st (fun _ kt => XS.iload X122.here hx rfl (hb hby at_156) rfl kt) ?_
            show Go p e below _ (T122.setTop (mkF m 158 #[.val (.int fi), .val (.int pv), .val (.long qv), .second, .val (.int av), .val (.int wv), .val (.int fl), .val (.ref b1), .val (.ref bc4), .val (.int (1 : Int32)), .val (.int (1 : Int32)), .val (.int (1 : Int32)), .val (.ref bh103), .val (.int (0 : Int32)), .unset] [(.int (0 : Int32))]))
            refine Go.st (fun _ kt => XS.ifYes X122.here hx rfl (pc0 := 158) (pc' := 165) rfl (hb hby at_158) rfl ((if0 _ _).trans (teq (by decide : (0 : Int32) = (0 : Int32))).1) (by decide) (by decide) kt) ?_
            show Go p e below _ (T122.setTop (mkF m 165 #[.val (.int fi), .val (.int pv), .val (.long qv), .second, .val (.int av), .val (.int wv), .val (.int fl), .val (.ref b1), .val (.ref bc4), .val (.int (1 : Int32)), .val (.int (1 : Int32)), .val (.int (1 : Int32)), .val (.ref bh103), .val (.int (0 : Int32)), .unset] []))
            refine Go.st (fun _ kt => XS.iconst X122.here hx rfl (hb hby at_165) kt) ?_
            show Go p e below _ (T122.setTop (mkF m 166 #[.val (.int fi), .val (.int pv), .val (.long qv), .second, .val (.int av), .val (.int wv), .val (.int fl), .val (.ref b1), .val (.ref bc4), .val (.int (1 : Int32)), .val (.int (1 : Int32)), .val (.int (1 : Int32)), .val (.ref bh103), .val (.int (0 : Int32)), .unset] [(.int (0 : Int32))]))
            refine Go.st (fun _ kt => XS.istore X122.here hx rfl (hb hby at_166) rfl (l' := #[.val (.int fi), .val (.int pv), .val (.long qv), .second, .val (.int av), .val (.int wv), .val (.int fl), .val (.ref b1), .val (.ref bc4), .val (.int (1 : Int32)), .val (.int (1 : Int32)), .val (.int (1 : Int32)), .val (.ref bh103), .val (.int (0 : Int32)), .val (.int (0 : Int32))]) rfl kt) ?_
            show Go p e below _ (T122.setTop (mkF m 168 #[.val (.int fi), .val (.int pv), .val (.long qv), .second, .val (.int av), .val (.int wv), .val (.int fl), .val (.ref b1), .val (.ref bc4), .val (.int (1 : Int32)), .val (.int (1 : Int32)), .val (.int (1 : Int32)), .val (.ref bh103), .val (.int (0 : Int32)), .val (.int (0 : Int32))] []))
            refine Go.st (fun _ kt => XS.iload X122.here hx rfl (hb hby at_168) rfl kt) ?_
            show Go p e below _ (T122.setTop (mkF m 170 #[.val (.int fi), .val (.int pv), .val (.long qv), .second, .val (.int av), .val (.int wv), .val (.int fl), .val (.ref b1), .val (.ref bc4), .val (.int (1 : Int32)), .val (.int (1 : Int32)), .val (.int (1 : Int32)), .val (.ref bh103), .val (.int (0 : Int32)), .val (.int (0 : Int32))] [(.int (1 : Int32))]))
            refine Go.st (fun _ kt => XS.ifNo X122.here hx rfl (hb hby at_170) rfl ((if0 _ _).trans (feq (by decide : ¬ ((1 : Int32) = (0 : Int32)))).1) kt) ?_
            show Go p e below _ (T122.setTop (mkF m 173 #[.val (.int fi), .val (.int pv), .val (.long qv), .second, .val (.int av), .val (.int wv), .val (.int fl), .val (.ref b1), .val (.ref bc4), .val (.int (1 : Int32)), .val (.int (1 : Int32)), .val (.int (1 : Int32)), .val (.ref bh103), .val (.int (0 : Int32)), .val (.int (0 : Int32))] []))
            refine Go.st (fun _ kt => XS.aload X122.here hx rfl (hb hby at_173) rfl rfl kt) ?_
            show Go p e below _ (T122.setTop (mkF m 175 #[.val (.int fi), .val (.int pv), .val (.long qv), .second, .val (.int av), .val (.int wv), .val (.int fl), .val (.ref b1), .val (.ref bc4), .val (.int (1 : Int32)), .val (.int (1 : Int32)), .val (.int (1 : Int32)), .val (.ref bh103), .val (.int (0 : Int32)), .val (.int (0 : Int32))] [(.ref b1)]))
            refine Go.st (fun _ kt => XS.aload X122.here hx rfl (hb hby at_175) rfl rfl kt) ?_
            show Go p e below _ (T122.setTop (mkF m 177 #[.val (.int fi), .val (.int pv), .val (.long qv), .second, .val (.int av), .val (.int wv), .val (.int fl), .val (.ref b1), .val (.ref bc4), .val (.int (1 : Int32)), .val (.int (1 : Int32)), .val (.int (1 : Int32)), .val (.ref bh103), .val (.int (0 : Int32)), .val (.int (0 : Int32))] [(.ref bc4), (.ref b1)]))
            have f126 := ((((((Fx4.keep K103q (ninS (Nat.ne_of_gt lt_b1_bc4) nin0)).keep K104q (ninS (Nat.ne_of_gt lt_b1_bc4) nin0)).keep K109q (ninS (Nat.ne_of_lt lt_bc4_bh103) nin0)).keep K116q (ninS (Nat.ne_of_gt lt_b1_bc4) nin0)).keep K121q (ninS (Nat.ne_of_gt lt_b1_bc4) (ninS (Nat.ne_of_lt lt_bc4_bh103) nin0))).keep K122q (ninS (Nat.ne_of_gt lt_b1_bc4) nin0))
            obtain ⟨cq127, kq127, q127a, q127b, q127c⟩ := isOf hZ rfl E_k122
            obtain ⟨_, _, ⟨T127, L127, k127, n127⟩, -, X127, ⟨Lc127, hQ127, l127, y127, z127⟩, st127⟩ := X122.virtualBack hx (y := (⟨"com/example/manyhands/manyhands/crowd/Totals", "countedSince", "(Lcom/example/manyhands/manyhands/crowd/Totals;)Z"⟩ : MethodName)) (z := (⟨"com/example/manyhands/manyhands/crowd/Totals", "countedSince", "(Lcom/example/manyhands/manyhands/crowd/Totals;)Z"⟩ : MethodName)) hown (mvT hZ (hw _ (List.mem_of_getElem? (i := 31) rfl))) (mvT hZ (hw _ (List.mem_of_getElem? (i := 32) rfl))) (notFace_of_selects (args := #[]) (mvT hZ (hw _ (List.mem_of_getElem? (i := 34) rfl)))) (mvT hZ (hw _ (List.mem_of_getElem? (i := 34) rfl))) (mvT hZ (hw _ (List.mem_of_getElem? (i := 33) rfl))) (by decide) (backOf (W := 0) (rm6e l Z a0 hw [] b1 bc4 (own_c1 ((0 : Int64) + av.toInt64) (own_c1 qv (own_c0 pv (own_c0 fi (0 : Int64))))) (own_c0 fi (0 : Int64)) T122.heap n0 Zs122 Fnk122 f126 (own_eq0 _ hc147_124 (own_za.mpr hc126_123) ((lw_eq _ _).mp hc153_125))) hZ (hw _ (List.mem_of_getElem? (i := 35) rfl)) (hw _ (List.mem_of_getElem? (i := 2) rfl)) (by decide) (by decide)) q127a q127c (g := (mkF m 177 #[.val (.int fi), .val (.int pv), .val (.long qv), .second, .val (.int av), .val (.int wv), .val (.int fl), .val (.ref b1), .val (.ref bc4), .val (.int (1 : Int32)), .val (.int (1 : Int32)), .val (.int (1 : Int32)), .val (.ref bh103), .val (.int (0 : Int32)), .val (.int (0 : Int32))] [(.ref bc4), (.ref b1)])) rfl (by rw [hml]; rfl) (Steps.refl _) (argsL := [(.ref bc4)]) (rest := []) (lenOf own_pd8 rfl) rfl (by show 2 * 0 + _ ≤ _; exact Nat.le_of_eq rfl) (hb hby at_177) (fun _ _ => ⟨rfl, rfl, (by decide : 3 + 0 ≤ _), (by decide : 13 + 0 ≤ _)⟩)
            dsimp only [Pt.U, Pt.locs, Pt.cells, Pt.slots] at X127 l127 y127 z127 st127 hQ127
            subst l127 y127 z127
            obtain ⟨rfl, N127q, e127⟩ := hQ127
            have N127 := Fr.app N122 N127q
            refine Go.tr st127 ?_
            show Go p e below _ (T127.setTop (mkF m 180 #[.val (.int fi), .val (.int pv), .val (.long qv), .second, .val (.int av), .val (.int wv), .val (.int fl), .val (.ref b1), .val (.ref bc4), .val (.int (1 : Int32)), .val (.int (1 : Int32)), .val (.int (1 : Int32)), .val (.ref bh103), .val (.int (0 : Int32)), .val (.int (0 : Int32))] [(.int (0 : Int32))]))
            refine Go.st (fun _ kt => XS.iload X127.here hx rfl (hb hby at_180) rfl kt) ?_
            show Go p e below _ (T127.setTop (mkF m 182 #[.val (.int fi), .val (.int pv), .val (.long qv), .second, .val (.int av), .val (.int wv), .val (.int fl), .val (.ref b1), .val (.ref bc4), .val (.int (1 : Int32)), .val (.int (1 : Int32)), .val (.int (1 : Int32)), .val (.ref bh103), .val (.int (0 : Int32)), .val (.int (0 : Int32))] [(.int (0 : Int32)), (.int (0 : Int32))]))
            refine Go.st (fun _ kt => XS.icmpNo X127.here hx rfl (hb hby at_182) rfl (teq (by decide : (0 : Int32) = (0 : Int32))).2 kt) ?_
            show Go p e below _ (T127.setTop (mkF m 185 #[.val (.int fi), .val (.int pv), .val (.long qv), .second, .val (.int av), .val (.int wv), .val (.int fl), .val (.ref b1), .val (.ref bc4), .val (.int (1 : Int32)), .val (.int (1 : Int32)), .val (.int (1 : Int32)), .val (.ref bh103), .val (.int (0 : Int32)), .val (.int (0 : Int32))] []))
            refine Go.st (fun _ kt => XS.iconst X127.here hx rfl (hb hby at_185) kt) ?_
            show Go p e below _ (T127.setTop (mkF m 186 #[.val (.int fi), .val (.int pv), .val (.long qv), .second, .val (.int av), .val (.int wv), .val (.int fl), .val (.ref b1), .val (.ref bc4), .val (.int (1 : Int32)), .val (.int (1 : Int32)), .val (.int (1 : Int32)), .val (.ref bh103), .val (.int (0 : Int32)), .val (.int (0 : Int32))] [(.int (1 : Int32))]))
            refine Go.st (fun _ kt => XS.goto X127.here hx rfl (pc0 := 186) (pc' := 190) rfl (hb hby at_186) (by decide) (by decide) kt) ?_
            show Go p e below _ (T127.setTop (mkF m 190 #[.val (.int fi), .val (.int pv), .val (.long qv), .second, .val (.int av), .val (.int wv), .val (.int fl), .val (.ref b1), .val (.ref bc4), .val (.int (1 : Int32)), .val (.int (1 : Int32)), .val (.int (1 : Int32)), .val (.ref bh103), .val (.int (0 : Int32)), .val (.int (0 : Int32))] [(.int (1 : Int32))]))
            refine Go.retN X127 hx (t := .boolean) Bd.returns (by simp) (BodyLoose.notSynchronized Bd) (hb hby at_190) (Q := (Q_rm0 Z fi pv qv av wv fl h0 n0)) (by decide) (by decide) ?_
            show (Q_rm0 Z fi pv qv av wv fl h0 n0) _ T127.heap _
            rw [e127]
            exact ⟨rfl, N127⟩
          · refine Go.st (fun _ kt => XS.ifYes X122.here hx rfl (pc0 := 153) (pc' := 161) rfl (hb hby at_153) rfl ((if0 _ _).trans (feq hc153_125).2) (by decide) (by decide) kt) ?_
            show Go p e below _ (T122.setTop (mkF m 161 #[.val (.int fi), .val (.int pv), .val (.long qv), .second, .val (.int av), .val (.int wv), .val (.int fl), .val (.ref b1), .val (.ref bc4), .val (.int (1 : Int32)), .val (.int (1 : Int32)), .val (.int (1 : Int32)), .val (.ref bh103), .val (.int (0 : Int32)), .unset] []))
            refine Go.st (fun _ kt => XS.iconst X122.here hx rfl (hb hby at_161) kt) ?_
            show Go p e below _ (T122.setTop (mkF m 162 #[.val (.int fi), .val (.int pv), .val (.long qv), .second, .val (.int av), .val (.int wv), .val (.int fl), .val (.ref b1), .val (.ref bc4), .val (.int (1 : Int32)), .val (.int (1 : Int32)), .val (.int (1 : Int32)), .val (.ref bh103), .val (.int (0 : Int32)), .unset] [(.int (1 : Int32))]))
            refine Go.st (fun _ kt => XS.goto X122.here hx rfl (pc0 := 162) (pc' := 166) rfl (hb hby at_162) (by decide) (by decide) kt) ?_
            show Go p e below _ (T122.setTop (mkF m 166 #[.val (.int fi), .val (.int pv), .val (.long qv), .second, .val (.int av), .val (.int wv), .val (.int fl), .val (.ref b1), .val (.ref bc4), .val (.int (1 : Int32)), .val (.int (1 : Int32)), .val (.int (1 : Int32)), .val (.ref bh103), .val (.int (0 : Int32)), .unset] [(.int (1 : Int32))]))
            refine Go.st (fun _ kt => XS.istore X122.here hx rfl (hb hby at_166) rfl (l' := #[.val (.int fi), .val (.int pv), .val (.long qv), .second, .val (.int av), .val (.int wv), .val (.int fl), .val (.ref b1), .val (.ref bc4), .val (.int (1 : Int32)), .val (.int (1 : Int32)), .val (.int (1 : Int32)), .val (.ref bh103), .val (.int (0 : Int32)), .val (.int (1 : Int32))]) rfl kt) ?_
            show Go p e below _ (T122.setTop (mkF m 168 #[.val (.int fi), .val (.int pv), .val (.long qv), .second, .val (.int av), .val (.int wv), .val (.int fl), .val (.ref b1), .val (.ref bc4), .val (.int (1 : Int32)), .val (.int (1 : Int32)), .val (.int (1 : Int32)), .val (.ref bh103), .val (.int (0 : Int32)), .val (.int (1 : Int32))] []))
            refine Go.st (fun _ kt => XS.iload X122.here hx rfl (hb hby at_168) rfl kt) ?_
            show Go p e below _ (T122.setTop (mkF m 170 #[.val (.int fi), .val (.int pv), .val (.long qv), .second, .val (.int av), .val (.int wv), .val (.int fl), .val (.ref b1), .val (.ref bc4), .val (.int (1 : Int32)), .val (.int (1 : Int32)), .val (.int (1 : Int32)), .val (.ref bh103), .val (.int (0 : Int32)), .val (.int (1 : Int32))] [(.int (1 : Int32))]))
            refine Go.st (fun _ kt => XS.ifNo X122.here hx rfl (hb hby at_170) rfl ((if0 _ _).trans (feq (by decide : ¬ ((1 : Int32) = (0 : Int32)))).1) kt) ?_
            show Go p e below _ (T122.setTop (mkF m 173 #[.val (.int fi), .val (.int pv), .val (.long qv), .second, .val (.int av), .val (.int wv), .val (.int fl), .val (.ref b1), .val (.ref bc4), .val (.int (1 : Int32)), .val (.int (1 : Int32)), .val (.int (1 : Int32)), .val (.ref bh103), .val (.int (0 : Int32)), .val (.int (1 : Int32))] []))
            refine Go.st (fun _ kt => XS.aload X122.here hx rfl (hb hby at_173) rfl rfl kt) ?_
            show Go p e below _ (T122.setTop (mkF m 175 #[.val (.int fi), .val (.int pv), .val (.long qv), .second, .val (.int av), .val (.int wv), .val (.int fl), .val (.ref b1), .val (.ref bc4), .val (.int (1 : Int32)), .val (.int (1 : Int32)), .val (.int (1 : Int32)), .val (.ref bh103), .val (.int (0 : Int32)), .val (.int (1 : Int32))] [(.ref b1)]))
            refine Go.st (fun _ kt => XS.aload X122.here hx rfl (hb hby at_175) rfl rfl kt) ?_
            show Go p e below _ (T122.setTop (mkF m 177 #[.val (.int fi), .val (.int pv), .val (.long qv), .second, .val (.int av), .val (.int wv), .val (.int fl), .val (.ref b1), .val (.ref bc4), .val (.int (1 : Int32)), .val (.int (1 : Int32)), .val (.int (1 : Int32)), .val (.ref bh103), .val (.int (0 : Int32)), .val (.int (1 : Int32))] [(.ref bc4), (.ref b1)]))
            have f128 := ((((((Fx4.keep K103q (ninS (Nat.ne_of_gt lt_b1_bc4) nin0)).keep K104q (ninS (Nat.ne_of_gt lt_b1_bc4) nin0)).keep K109q (ninS (Nat.ne_of_lt lt_bc4_bh103) nin0)).keep K116q (ninS (Nat.ne_of_gt lt_b1_bc4) nin0)).keep K121q (ninS (Nat.ne_of_gt lt_b1_bc4) (ninS (Nat.ne_of_lt lt_bc4_bh103) nin0))).keep K122q (ninS (Nat.ne_of_gt lt_b1_bc4) nin0))
            obtain ⟨cq129, kq129, q129a, q129b, q129c⟩ := isOf hZ rfl E_k122
            obtain ⟨_, _, ⟨T129, L129, k129, n129⟩, -, X129, ⟨Lc129, hQ129, l129, y129, z129⟩, st129⟩ := X122.virtualBack hx (y := (⟨"com/example/manyhands/manyhands/crowd/Totals", "countedSince", "(Lcom/example/manyhands/manyhands/crowd/Totals;)Z"⟩ : MethodName)) (z := (⟨"com/example/manyhands/manyhands/crowd/Totals", "countedSince", "(Lcom/example/manyhands/manyhands/crowd/Totals;)Z"⟩ : MethodName)) hown (mvT hZ (hw _ (List.mem_of_getElem? (i := 31) rfl))) (mvT hZ (hw _ (List.mem_of_getElem? (i := 32) rfl))) (notFace_of_selects (args := #[]) (mvT hZ (hw _ (List.mem_of_getElem? (i := 34) rfl)))) (mvT hZ (hw _ (List.mem_of_getElem? (i := 34) rfl))) (mvT hZ (hw _ (List.mem_of_getElem? (i := 33) rfl))) (by decide) (backOf (W := 0) (rm6n l Z a0 hw [] b1 bc4 (own_c1 ((0 : Int64) + av.toInt64) (own_c1 qv (own_c0 pv (own_c0 fi (0 : Int64))))) (own_c0 fi (0 : Int64)) T122.heap n0 Zs122 Fnk122 f128 (own_ne0 _ (Or.inr (Or.inr (fun q => hc153_125 ((lw_eq _ _).mpr q)))))) hZ (hw _ (List.mem_of_getElem? (i := 35) rfl)) (hw _ (List.mem_of_getElem? (i := 2) rfl)) (by decide) (by decide)) q129a q129c (g := (mkF m 177 #[.val (.int fi), .val (.int pv), .val (.long qv), .second, .val (.int av), .val (.int wv), .val (.int fl), .val (.ref b1), .val (.ref bc4), .val (.int (1 : Int32)), .val (.int (1 : Int32)), .val (.int (1 : Int32)), .val (.ref bh103), .val (.int (0 : Int32)), .val (.int (1 : Int32))] [(.ref bc4), (.ref b1)])) rfl (by rw [hml]; rfl) (Steps.refl _) (argsL := [(.ref bc4)]) (rest := []) (lenOf own_pd8 rfl) rfl (by show 2 * 0 + _ ≤ _; exact Nat.le_of_eq rfl) (hb hby at_177) (fun _ _ => ⟨rfl, rfl, (by decide : 3 + 0 ≤ _), (by decide : 13 + 0 ≤ _)⟩)
            dsimp only [Pt.U, Pt.locs, Pt.cells, Pt.slots] at X129 l129 y129 z129 st129 hQ129
            subst l129 y129 z129
            obtain ⟨rfl, N129q, e129⟩ := hQ129
            have N129 := Fr.app N122 N129q
            refine Go.tr st129 ?_
            show Go p e below _ (T129.setTop (mkF m 180 #[.val (.int fi), .val (.int pv), .val (.long qv), .second, .val (.int av), .val (.int wv), .val (.int fl), .val (.ref b1), .val (.ref bc4), .val (.int (1 : Int32)), .val (.int (1 : Int32)), .val (.int (1 : Int32)), .val (.ref bh103), .val (.int (0 : Int32)), .val (.int (1 : Int32))] [(.int (1 : Int32))]))
            refine Go.st (fun _ kt => XS.iload X129.here hx rfl (hb hby at_180) rfl kt) ?_
            show Go p e below _ (T129.setTop (mkF m 182 #[.val (.int fi), .val (.int pv), .val (.long qv), .second, .val (.int av), .val (.int wv), .val (.int fl), .val (.ref b1), .val (.ref bc4), .val (.int (1 : Int32)), .val (.int (1 : Int32)), .val (.int (1 : Int32)), .val (.ref bh103), .val (.int (0 : Int32)), .val (.int (1 : Int32))] [(.int (1 : Int32)), (.int (1 : Int32))]))
            refine Go.st (fun _ kt => XS.icmpNo X129.here hx rfl (hb hby at_182) rfl (teq (by decide : (1 : Int32) = (1 : Int32))).2 kt) ?_
            show Go p e below _ (T129.setTop (mkF m 185 #[.val (.int fi), .val (.int pv), .val (.long qv), .second, .val (.int av), .val (.int wv), .val (.int fl), .val (.ref b1), .val (.ref bc4), .val (.int (1 : Int32)), .val (.int (1 : Int32)), .val (.int (1 : Int32)), .val (.ref bh103), .val (.int (0 : Int32)), .val (.int (1 : Int32))] []))
            refine Go.st (fun _ kt => XS.iconst X129.here hx rfl (hb hby at_185) kt) ?_
            show Go p e below _ (T129.setTop (mkF m 186 #[.val (.int fi), .val (.int pv), .val (.long qv), .second, .val (.int av), .val (.int wv), .val (.int fl), .val (.ref b1), .val (.ref bc4), .val (.int (1 : Int32)), .val (.int (1 : Int32)), .val (.int (1 : Int32)), .val (.ref bh103), .val (.int (0 : Int32)), .val (.int (1 : Int32))] [(.int (1 : Int32))]))
            refine Go.st (fun _ kt => XS.goto X129.here hx rfl (pc0 := 186) (pc' := 190) rfl (hb hby at_186) (by decide) (by decide) kt) ?_
            show Go p e below _ (T129.setTop (mkF m 190 #[.val (.int fi), .val (.int pv), .val (.long qv), .second, .val (.int av), .val (.int wv), .val (.int fl), .val (.ref b1), .val (.ref bc4), .val (.int (1 : Int32)), .val (.int (1 : Int32)), .val (.int (1 : Int32)), .val (.ref bh103), .val (.int (0 : Int32)), .val (.int (1 : Int32))] [(.int (1 : Int32))]))
            refine Go.retN X129 hx (t := .boolean) Bd.returns (by simp) (BodyLoose.notSynchronized Bd) (hb hby at_190) (Q := (Q_rm0 Z fi pv qv av wv fl h0 n0)) (by decide) (by decide) ?_
            show (Q_rm0 Z fi pv qv av wv fl h0 n0) _ T129.heap _
            rw [e129]
            exact ⟨rfl, N129⟩
        · refine Go.st (fun _ kt => XS.ifYes X122.here hx rfl (pc0 := 147) (pc' := 161) rfl (hb hby at_147) rfl ((if0 _ _).trans (feq hc147_124).2) (by decide) (by decide) kt) ?_
          show Go p e below _ (T122.setTop (mkF m 161 #[.val (.int fi), .val (.int pv), .val (.long qv), .second, .val (.int av), .val (.int wv), .val (.int fl), .val (.ref b1), .val (.ref bc4), .val (.int (1 : Int32)), .val (.int (1 : Int32)), .val (.int (1 : Int32)), .val (.ref bh103), .val (.int (0 : Int32)), .unset] []))
          refine Go.st (fun _ kt => XS.iconst X122.here hx rfl (hb hby at_161) kt) ?_
          show Go p e below _ (T122.setTop (mkF m 162 #[.val (.int fi), .val (.int pv), .val (.long qv), .second, .val (.int av), .val (.int wv), .val (.int fl), .val (.ref b1), .val (.ref bc4), .val (.int (1 : Int32)), .val (.int (1 : Int32)), .val (.int (1 : Int32)), .val (.ref bh103), .val (.int (0 : Int32)), .unset] [(.int (1 : Int32))]))
          refine Go.st (fun _ kt => XS.goto X122.here hx rfl (pc0 := 162) (pc' := 166) rfl (hb hby at_162) (by decide) (by decide) kt) ?_
          show Go p e below _ (T122.setTop (mkF m 166 #[.val (.int fi), .val (.int pv), .val (.long qv), .second, .val (.int av), .val (.int wv), .val (.int fl), .val (.ref b1), .val (.ref bc4), .val (.int (1 : Int32)), .val (.int (1 : Int32)), .val (.int (1 : Int32)), .val (.ref bh103), .val (.int (0 : Int32)), .unset] [(.int (1 : Int32))]))
          refine Go.st (fun _ kt => XS.istore X122.here hx rfl (hb hby at_166) rfl (l' := #[.val (.int fi), .val (.int pv), .val (.long qv), .second, .val (.int av), .val (.int wv), .val (.int fl), .val (.ref b1), .val (.ref bc4), .val (.int (1 : Int32)), .val (.int (1 : Int32)), .val (.int (1 : Int32)), .val (.ref bh103), .val (.int (0 : Int32)), .val (.int (1 : Int32))]) rfl kt) ?_
          show Go p e below _ (T122.setTop (mkF m 168 #[.val (.int fi), .val (.int pv), .val (.long qv), .second, .val (.int av), .val (.int wv), .val (.int fl), .val (.ref b1), .val (.ref bc4), .val (.int (1 : Int32)), .val (.int (1 : Int32)), .val (.int (1 : Int32)), .val (.ref bh103), .val (.int (0 : Int32)), .val (.int (1 : Int32))] []))
          refine Go.st (fun _ kt => XS.iload X122.here hx rfl (hb hby at_168) rfl kt) ?_
          show Go p e below _ (T122.setTop (mkF m 170 #[.val (.int fi), .val (.int pv), .val (.long qv), .second, .val (.int av), .val (.int wv), .val (.int fl), .val (.ref b1), .val (.ref bc4), .val (.int (1 : Int32)), .val (.int (1 : Int32)), .val (.int (1 : Int32)), .val (.ref bh103), .val (.int (0 : Int32)), .val (.int (1 : Int32))] [(.int (1 : Int32))]))
          refine Go.st (fun _ kt => XS.ifNo X122.here hx rfl (hb hby at_170) rfl ((if0 _ _).trans (feq (by decide : ¬ ((1 : Int32) = (0 : Int32)))).1) kt) ?_
          show Go p e below _ (T122.setTop (mkF m 173 #[.val (.int fi), .val (.int pv), .val (.long qv), .second, .val (.int av), .val (.int wv), .val (.int fl), .val (.ref b1), .val (.ref bc4), .val (.int (1 : Int32)), .val (.int (1 : Int32)), .val (.int (1 : Int32)), .val (.ref bh103), .val (.int (0 : Int32)), .val (.int (1 : Int32))] []))
          refine Go.st (fun _ kt => XS.aload X122.here hx rfl (hb hby at_173) rfl rfl kt) ?_
          show Go p e below _ (T122.setTop (mkF m 175 #[.val (.int fi), .val (.int pv), .val (.long qv), .second, .val (.int av), .val (.int wv), .val (.int fl), .val (.ref b1), .val (.ref bc4), .val (.int (1 : Int32)), .val (.int (1 : Int32)), .val (.int (1 : Int32)), .val (.ref bh103), .val (.int (0 : Int32)), .val (.int (1 : Int32))] [(.ref b1)]))
          refine Go.st (fun _ kt => XS.aload X122.here hx rfl (hb hby at_175) rfl rfl kt) ?_
          show Go p e below _ (T122.setTop (mkF m 177 #[.val (.int fi), .val (.int pv), .val (.long qv), .second, .val (.int av), .val (.int wv), .val (.int fl), .val (.ref b1), .val (.ref bc4), .val (.int (1 : Int32)), .val (.int (1 : Int32)), .val (.int (1 : Int32)), .val (.ref bh103), .val (.int (0 : Int32)), .val (.int (1 : Int32))] [(.ref bc4), (.ref b1)]))
          have f130 := ((((((Fx4.keep K103q (ninS (Nat.ne_of_gt lt_b1_bc4) nin0)).keep K104q (ninS (Nat.ne_of_gt lt_b1_bc4) nin0)).keep K109q (ninS (Nat.ne_of_lt lt_bc4_bh103) nin0)).keep K116q (ninS (Nat.ne_of_gt lt_b1_bc4) nin0)).keep K121q (ninS (Nat.ne_of_gt lt_b1_bc4) (ninS (Nat.ne_of_lt lt_bc4_bh103) nin0))).keep K122q (ninS (Nat.ne_of_gt lt_b1_bc4) nin0))
          obtain ⟨cq131, kq131, q131a, q131b, q131c⟩ := isOf hZ rfl E_k122
          obtain ⟨_, _, ⟨T131, L131, k131, n131⟩, -, X131, ⟨Lc131, hQ131, l131, y131, z131⟩, st131⟩ := X122.virtualBack hx (y := (⟨"com/example/manyhands/manyhands/crowd/Totals", "countedSince", "(Lcom/example/manyhands/manyhands/crowd/Totals;)Z"⟩ : MethodName)) (z := (⟨"com/example/manyhands/manyhands/crowd/Totals", "countedSince", "(Lcom/example/manyhands/manyhands/crowd/Totals;)Z"⟩ : MethodName)) hown (mvT hZ (hw _ (List.mem_of_getElem? (i := 31) rfl))) (mvT hZ (hw _ (List.mem_of_getElem? (i := 32) rfl))) (notFace_of_selects (args := #[]) (mvT hZ (hw _ (List.mem_of_getElem? (i := 34) rfl)))) (mvT hZ (hw _ (List.mem_of_getElem? (i := 34) rfl))) (mvT hZ (hw _ (List.mem_of_getElem? (i := 33) rfl))) (by decide) (backOf (W := 0) (rm6n l Z a0 hw [] b1 bc4 (own_c1 ((0 : Int64) + av.toInt64) (own_c1 qv (own_c0 pv (own_c0 fi (0 : Int64))))) (own_c0 fi (0 : Int64)) T122.heap n0 Zs122 Fnk122 f130 (own_ne0 _ (Or.inl hc147_124))) hZ (hw _ (List.mem_of_getElem? (i := 35) rfl)) (hw _ (List.mem_of_getElem? (i := 2) rfl)) (by decide) (by decide)) q131a q131c (g := (mkF m 177 #[.val (.int fi), .val (.int pv), .val (.long qv), .second, .val (.int av), .val (.int wv), .val (.int fl), .val (.ref b1), .val (.ref bc4), .val (.int (1 : Int32)), .val (.int (1 : Int32)), .val (.int (1 : Int32)), .val (.ref bh103), .val (.int (0 : Int32)), .val (.int (1 : Int32))] [(.ref bc4), (.ref b1)])) rfl (by rw [hml]; rfl) (Steps.refl _) (argsL := [(.ref bc4)]) (rest := []) (lenOf own_pd8 rfl) rfl (by show 2 * 0 + _ ≤ _; exact Nat.le_of_eq rfl) (hb hby at_177) (fun _ _ => ⟨rfl, rfl, (by decide : 3 + 0 ≤ _), (by decide : 13 + 0 ≤ _)⟩)
          dsimp only [Pt.U, Pt.locs, Pt.cells, Pt.slots] at X131 l131 y131 z131 st131 hQ131
          subst l131 y131 z131
          obtain ⟨rfl, N131q, e131⟩ := hQ131
          have N131 := Fr.app N122 N131q
          refine Go.tr st131 ?_
          show Go p e below _ (T131.setTop (mkF m 180 #[.val (.int fi), .val (.int pv), .val (.long qv), .second, .val (.int av), .val (.int wv), .val (.int fl), .val (.ref b1), .val (.ref bc4), .val (.int (1 : Int32)), .val (.int (1 : Int32)), .val (.int (1 : Int32)), .val (.ref bh103), .val (.int (0 : Int32)), .val (.int (1 : Int32))] [(.int (1 : Int32))]))
          refine Go.st (fun _ kt => XS.iload X131.here hx rfl (hb hby at_180) rfl kt) ?_
          show Go p e below _ (T131.setTop (mkF m 182 #[.val (.int fi), .val (.int pv), .val (.long qv), .second, .val (.int av), .val (.int wv), .val (.int fl), .val (.ref b1), .val (.ref bc4), .val (.int (1 : Int32)), .val (.int (1 : Int32)), .val (.int (1 : Int32)), .val (.ref bh103), .val (.int (0 : Int32)), .val (.int (1 : Int32))] [(.int (1 : Int32)), (.int (1 : Int32))]))
          refine Go.st (fun _ kt => XS.icmpNo X131.here hx rfl (hb hby at_182) rfl (teq (by decide : (1 : Int32) = (1 : Int32))).2 kt) ?_
          show Go p e below _ (T131.setTop (mkF m 185 #[.val (.int fi), .val (.int pv), .val (.long qv), .second, .val (.int av), .val (.int wv), .val (.int fl), .val (.ref b1), .val (.ref bc4), .val (.int (1 : Int32)), .val (.int (1 : Int32)), .val (.int (1 : Int32)), .val (.ref bh103), .val (.int (0 : Int32)), .val (.int (1 : Int32))] []))
          refine Go.st (fun _ kt => XS.iconst X131.here hx rfl (hb hby at_185) kt) ?_
          show Go p e below _ (T131.setTop (mkF m 186 #[.val (.int fi), .val (.int pv), .val (.long qv), .second, .val (.int av), .val (.int wv), .val (.int fl), .val (.ref b1), .val (.ref bc4), .val (.int (1 : Int32)), .val (.int (1 : Int32)), .val (.int (1 : Int32)), .val (.ref bh103), .val (.int (0 : Int32)), .val (.int (1 : Int32))] [(.int (1 : Int32))]))
          refine Go.st (fun _ kt => XS.goto X131.here hx rfl (pc0 := 186) (pc' := 190) rfl (hb hby at_186) (by decide) (by decide) kt) ?_
          show Go p e below _ (T131.setTop (mkF m 190 #[.val (.int fi), .val (.int pv), .val (.long qv), .second, .val (.int av), .val (.int wv), .val (.int fl), .val (.ref b1), .val (.ref bc4), .val (.int (1 : Int32)), .val (.int (1 : Int32)), .val (.int (1 : Int32)), .val (.ref bh103), .val (.int (0 : Int32)), .val (.int (1 : Int32))] [(.int (1 : Int32))]))
          refine Go.retN X131 hx (t := .boolean) Bd.returns (by simp) (BodyLoose.notSynchronized Bd) (hb hby at_190) (Q := (Q_rm0 Z fi pv qv av wv fl h0 n0)) (by decide) (by decide) ?_
          show (Q_rm0 Z fi pv qv av wv fl h0 n0) _ T131.heap _
          rw [e131]
          exact ⟨rfl, N131⟩
      · refine Go.st (fun _ kt => XS.ifNo X122.here hx rfl (hb hby at_126) rfl ((if0 _ _).trans (feq hc126_123).1) kt) ?_
        show Go p e below _ (T122.setTop (mkF m 129 #[.val (.int fi), .val (.int pv), .val (.long qv), .second, .val (.int av), .val (.int wv), .val (.int fl), .val (.ref b1), .val (.ref bc4), .val (.int (1 : Int32)), .val (.int (1 : Int32)), .val (.int (1 : Int32)), .val (.ref bh103), .unset, .unset] []))
        refine Go.st (fun _ kt => XS.iload X122.here hx rfl (hb hby at_129) rfl kt) ?_
        show Go p e below _ (T122.setTop (mkF m 131 #[.val (.int fi), .val (.int pv), .val (.long qv), .second, .val (.int av), .val (.int wv), .val (.int fl), .val (.ref b1), .val (.ref bc4), .val (.int (1 : Int32)), .val (.int (1 : Int32)), .val (.int (1 : Int32)), .val (.ref bh103), .unset, .unset] [(.int (1 : Int32))]))
        refine Go.st (fun _ kt => XS.ifNo X122.here hx rfl (hb hby at_131) rfl ((if0 _ _).trans (feq (by decide : ¬ ((1 : Int32) = (0 : Int32)))).1) kt) ?_
        show Go p e below _ (T122.setTop (mkF m 134 #[.val (.int fi), .val (.int pv), .val (.long qv), .second, .val (.int av), .val (.int wv), .val (.int fl), .val (.ref b1), .val (.ref bc4), .val (.int (1 : Int32)), .val (.int (1 : Int32)), .val (.int (1 : Int32)), .val (.ref bh103), .unset, .unset] []))
        refine Go.st (fun _ kt => XS.iload X122.here hx rfl (hb hby at_134) rfl kt) ?_
        show Go p e below _ (T122.setTop (mkF m 136 #[.val (.int fi), .val (.int pv), .val (.long qv), .second, .val (.int av), .val (.int wv), .val (.int fl), .val (.ref b1), .val (.ref bc4), .val (.int (1 : Int32)), .val (.int (1 : Int32)), .val (.int (1 : Int32)), .val (.ref bh103), .unset, .unset] [(.int (1 : Int32))]))
        refine Go.st (fun _ kt => XS.ifNo X122.here hx rfl (hb hby at_136) rfl ((if0 _ _).trans (feq (by decide : ¬ ((1 : Int32) = (0 : Int32)))).1) kt) ?_
        show Go p e below _ (T122.setTop (mkF m 139 #[.val (.int fi), .val (.int pv), .val (.long qv), .second, .val (.int av), .val (.int wv), .val (.int fl), .val (.ref b1), .val (.ref bc4), .val (.int (1 : Int32)), .val (.int (1 : Int32)), .val (.int (1 : Int32)), .val (.ref bh103), .unset, .unset] []))
        refine Go.st (fun _ kt => XS.iconst X122.here hx rfl (hb hby at_139) kt) ?_
        show Go p e below _ (T122.setTop (mkF m 140 #[.val (.int fi), .val (.int pv), .val (.long qv), .second, .val (.int av), .val (.int wv), .val (.int fl), .val (.ref b1), .val (.ref bc4), .val (.int (1 : Int32)), .val (.int (1 : Int32)), .val (.int (1 : Int32)), .val (.ref bh103), .unset, .unset] [(.int (1 : Int32))]))
        refine Go.st (fun _ kt => XS.goto X122.here hx rfl (pc0 := 140) (pc' := 144) rfl (hb hby at_140) (by decide) (by decide) kt) ?_
        show Go p e below _ (T122.setTop (mkF m 144 #[.val (.int fi), .val (.int pv), .val (.long qv), .second, .val (.int av), .val (.int wv), .val (.int fl), .val (.ref b1), .val (.ref bc4), .val (.int (1 : Int32)), .val (.int (1 : Int32)), .val (.int (1 : Int32)), .val (.ref bh103), .unset, .unset] [(.int (1 : Int32))]))
        refine Go.st (fun _ kt => XS.istore X122.here hx rfl (hb hby at_144) rfl (l' := #[.val (.int fi), .val (.int pv), .val (.long qv), .second, .val (.int av), .val (.int wv), .val (.int fl), .val (.ref b1), .val (.ref bc4), .val (.int (1 : Int32)), .val (.int (1 : Int32)), .val (.int (1 : Int32)), .val (.ref bh103), .val (.int (1 : Int32)), .unset]) rfl kt) ?_
        show Go p e below _ (T122.setTop (mkF m 146 #[.val (.int fi), .val (.int pv), .val (.long qv), .second, .val (.int av), .val (.int wv), .val (.int fl), .val (.ref b1), .val (.ref bc4), .val (.int (1 : Int32)), .val (.int (1 : Int32)), .val (.int (1 : Int32)), .val (.ref bh103), .val (.int (1 : Int32)), .unset] []))
        refine Go.st (fun _ kt => XS.iloadN X122.here hx rfl (hb hby at_146) rfl kt) ?_
        show Go p e below _ (T122.setTop (mkF m 147 #[.val (.int fi), .val (.int pv), .val (.long qv), .second, .val (.int av), .val (.int wv), .val (.int fl), .val (.ref b1), .val (.ref bc4), .val (.int (1 : Int32)), .val (.int (1 : Int32)), .val (.int (1 : Int32)), .val (.ref bh103), .val (.int (1 : Int32)), .unset] [(.int pv)]))
        by_cases hc147_132 : pv = (0 : Int32)
        · refine Go.st (fun _ kt => XS.ifNo X122.here hx rfl (hb hby at_147) rfl ((if0 _ _).trans (teq hc147_132).2) kt) ?_
          show Go p e below _ (T122.setTop (mkF m 150 #[.val (.int fi), .val (.int pv), .val (.long qv), .second, .val (.int av), .val (.int wv), .val (.int fl), .val (.ref b1), .val (.ref bc4), .val (.int (1 : Int32)), .val (.int (1 : Int32)), .val (.int (1 : Int32)), .val (.ref bh103), .val (.int (1 : Int32)), .unset] []))
          refine Go.st (fun _ kt => XS.lloadN X122.here hx rfl (hb hby at_150) rfl kt) ?_
          show Go p e below _ (T122.setTop (mkF m 151 #[.val (.int fi), .val (.int pv), .val (.long qv), .second, .val (.int av), .val (.int wv), .val (.int fl), .val (.ref b1), .val (.ref bc4), .val (.int (1 : Int32)), .val (.int (1 : Int32)), .val (.int (1 : Int32)), .val (.ref bh103), .val (.int (1 : Int32)), .unset] [(.long qv)]))
          refine Go.st (fun _ kt => XS.lconst X122.here hx rfl (hb hby at_151) kt) ?_
          show Go p e below _ (T122.setTop (mkF m 152 #[.val (.int fi), .val (.int pv), .val (.long qv), .second, .val (.int av), .val (.int wv), .val (.int fl), .val (.ref b1), .val (.ref bc4), .val (.int (1 : Int32)), .val (.int (1 : Int32)), .val (.int (1 : Int32)), .val (.ref bh103), .val (.int (1 : Int32)), .unset] [(.long (0 : Int64)), (.long qv)]))
          refine Go.st (fun _ kt => XS.lcmp X122.here hx rfl (hb hby at_152) rfl kt) ?_
          show Go p e below _ (T122.setTop (mkF m 153 #[.val (.int fi), .val (.int pv), .val (.long qv), .second, .val (.int av), .val (.int wv), .val (.int fl), .val (.ref b1), .val (.ref bc4), .val (.int (1 : Int32)), .val (.int (1 : Int32)), .val (.int (1 : Int32)), .val (.ref bh103), .val (.int (1 : Int32)), .unset] [(.int (lcmpW qv (0 : Int64)))]))
          by_cases hc153_133 : (lcmpW qv (0 : Int64)) = (0 : Int32)
          · refine Go.st (fun _ kt => XS.ifNo X122.here hx rfl (hb hby at_153) rfl ((if0 _ _).trans (teq hc153_133).2) kt) ?_
            show Go p e below _ (T122.setTop (mkF m 156 #[.val (.int fi), .val (.int pv), .val (.long qv), .second, .val (.int av), .val (.int wv), .val (.int fl), .val (.ref b1), .val (.ref bc4), .val (.int (1 : Int32)), .val (.int (1 : Int32)), .val (.int (1 : Int32)), .val (.ref bh103), .val (.int (1 : Int32)), .unset] []))
            refine Go.st (fun _ kt => XS.iload X122.here hx rfl (hb hby at_156) rfl kt) ?_
            show Go p e below _ (T122.setTop (mkF m 158 #[.val (.int fi), .val (.int pv), .val (.long qv), .second, .val (.int av), .val (.int wv), .val (.int fl), .val (.ref b1), .val (.ref bc4), .val (.int (1 : Int32)), .val (.int (1 : Int32)), .val (.int (1 : Int32)), .val (.ref bh103), .val (.int (1 : Int32)), .unset] [(.int (1 : Int32))]))
            refine Go.st (fun _ kt => XS.ifNo X122.here hx rfl (hb hby at_158) rfl ((if0 _ _).trans (feq (by decide : ¬ ((1 : Int32) = (0 : Int32)))).1) kt) ?_
            show Go p e below _ (T122.setTop (mkF m 161 #[.val (.int fi), .val (.int pv), .val (.long qv), .second, .val (.int av), .val (.int wv), .val (.int fl), .val (.ref b1), .val (.ref bc4), .val (.int (1 : Int32)), .val (.int (1 : Int32)), .val (.int (1 : Int32)), .val (.ref bh103), .val (.int (1 : Int32)), .unset] []))
            refine Go.st (fun _ kt => XS.iconst X122.here hx rfl (hb hby at_161) kt) ?_
            show Go p e below _ (T122.setTop (mkF m 162 #[.val (.int fi), .val (.int pv), .val (.long qv), .second, .val (.int av), .val (.int wv), .val (.int fl), .val (.ref b1), .val (.ref bc4), .val (.int (1 : Int32)), .val (.int (1 : Int32)), .val (.int (1 : Int32)), .val (.ref bh103), .val (.int (1 : Int32)), .unset] [(.int (1 : Int32))]))
            refine Go.st (fun _ kt => XS.goto X122.here hx rfl (pc0 := 162) (pc' := 166) rfl (hb hby at_162) (by decide) (by decide) kt) ?_
            show Go p e below _ (T122.setTop (mkF m 166 #[.val (.int fi), .val (.int pv), .val (.long qv), .second, .val (.int av), .val (.int wv), .val (.int fl), .val (.ref b1), .val (.ref bc4), .val (.int (1 : Int32)), .val (.int (1 : Int32)), .val (.int (1 : Int32)), .val (.ref bh103), .val (.int (1 : Int32)), .unset] [(.int (1 : Int32))]))
            refine Go.st (fun _ kt => XS.istore X122.here hx rfl (hb hby at_166) rfl (l' := #[.val (.int fi), .val (.int pv), .val (.long qv), .second, .val (.int av), .val (.int wv), .val (.int fl), .val (.ref b1), .val (.ref bc4), .val (.int (1 : Int32)), .val (.int (1 : Int32)), .val (.int (1 : Int32)), .val (.ref bh103), .val (.int (1 : Int32)), .val (.int (1 : Int32))]) rfl kt) ?_
            show Go p e below _ (T122.setTop (mkF m 168 #[.val (.int fi), .val (.int pv), .val (.long qv), .second, .val (.int av), .val (.int wv), .val (.int fl), .val (.ref b1), .val (.ref bc4), .val (.int (1 : Int32)), .val (.int (1 : Int32)), .val (.int (1 : Int32)), .val (.ref bh103), .val (.int (1 : Int32)), .val (.int (1 : Int32))] []))
            refine Go.st (fun _ kt => XS.iload X122.here hx rfl (hb hby at_168) rfl kt) ?_
            show Go p e below _ (T122.setTop (mkF m 170 #[.val (.int fi), .val (.int pv), .val (.long qv), .second, .val (.int av), .val (.int wv), .val (.int fl), .val (.ref b1), .val (.ref bc4), .val (.int (1 : Int32)), .val (.int (1 : Int32)), .val (.int (1 : Int32)), .val (.ref bh103), .val (.int (1 : Int32)), .val (.int (1 : Int32))] [(.int (1 : Int32))]))
            refine Go.st (fun _ kt => XS.ifNo X122.here hx rfl (hb hby at_170) rfl ((if0 _ _).trans (feq (by decide : ¬ ((1 : Int32) = (0 : Int32)))).1) kt) ?_
            show Go p e below _ (T122.setTop (mkF m 173 #[.val (.int fi), .val (.int pv), .val (.long qv), .second, .val (.int av), .val (.int wv), .val (.int fl), .val (.ref b1), .val (.ref bc4), .val (.int (1 : Int32)), .val (.int (1 : Int32)), .val (.int (1 : Int32)), .val (.ref bh103), .val (.int (1 : Int32)), .val (.int (1 : Int32))] []))
            refine Go.st (fun _ kt => XS.aload X122.here hx rfl (hb hby at_173) rfl rfl kt) ?_
            show Go p e below _ (T122.setTop (mkF m 175 #[.val (.int fi), .val (.int pv), .val (.long qv), .second, .val (.int av), .val (.int wv), .val (.int fl), .val (.ref b1), .val (.ref bc4), .val (.int (1 : Int32)), .val (.int (1 : Int32)), .val (.int (1 : Int32)), .val (.ref bh103), .val (.int (1 : Int32)), .val (.int (1 : Int32))] [(.ref b1)]))
            refine Go.st (fun _ kt => XS.aload X122.here hx rfl (hb hby at_175) rfl rfl kt) ?_
            show Go p e below _ (T122.setTop (mkF m 177 #[.val (.int fi), .val (.int pv), .val (.long qv), .second, .val (.int av), .val (.int wv), .val (.int fl), .val (.ref b1), .val (.ref bc4), .val (.int (1 : Int32)), .val (.int (1 : Int32)), .val (.int (1 : Int32)), .val (.ref bh103), .val (.int (1 : Int32)), .val (.int (1 : Int32))] [(.ref bc4), (.ref b1)]))
            have f134 := ((((((Fx4.keep K103q (ninS (Nat.ne_of_gt lt_b1_bc4) nin0)).keep K104q (ninS (Nat.ne_of_gt lt_b1_bc4) nin0)).keep K109q (ninS (Nat.ne_of_lt lt_bc4_bh103) nin0)).keep K116q (ninS (Nat.ne_of_gt lt_b1_bc4) nin0)).keep K121q (ninS (Nat.ne_of_gt lt_b1_bc4) (ninS (Nat.ne_of_lt lt_bc4_bh103) nin0))).keep K122q (ninS (Nat.ne_of_gt lt_b1_bc4) nin0))
            obtain ⟨cq135, kq135, q135a, q135b, q135c⟩ := isOf hZ rfl E_k122
            obtain ⟨_, _, ⟨T135, L135, k135, n135⟩, -, X135, ⟨Lc135, hQ135, l135, y135, z135⟩, st135⟩ := X122.virtualBack hx (y := (⟨"com/example/manyhands/manyhands/crowd/Totals", "countedSince", "(Lcom/example/manyhands/manyhands/crowd/Totals;)Z"⟩ : MethodName)) (z := (⟨"com/example/manyhands/manyhands/crowd/Totals", "countedSince", "(Lcom/example/manyhands/manyhands/crowd/Totals;)Z"⟩ : MethodName)) hown (mvT hZ (hw _ (List.mem_of_getElem? (i := 31) rfl))) (mvT hZ (hw _ (List.mem_of_getElem? (i := 32) rfl))) (notFace_of_selects (args := #[]) (mvT hZ (hw _ (List.mem_of_getElem? (i := 34) rfl)))) (mvT hZ (hw _ (List.mem_of_getElem? (i := 34) rfl))) (mvT hZ (hw _ (List.mem_of_getElem? (i := 33) rfl))) (by decide) (backOf (W := 0) (rm6n l Z a0 hw [] b1 bc4 (own_c1 ((0 : Int64) + av.toInt64) (own_c1 qv (own_c0 pv (own_c0 fi (0 : Int64))))) (own_c0 fi (0 : Int64)) T122.heap n0 Zs122 Fnk122 f134 (own_ne0 _ (Or.inr (Or.inl (fun q => hc126_123 (own_za.mp q)))))) hZ (hw _ (List.mem_of_getElem? (i := 35) rfl)) (hw _ (List.mem_of_getElem? (i := 2) rfl)) (by decide) (by decide)) q135a q135c (g := (mkF m 177 #[.val (.int fi), .val (.int pv), .val (.long qv), .second, .val (.int av), .val (.int wv), .val (.int fl), .val (.ref b1), .val (.ref bc4), .val (.int (1 : Int32)), .val (.int (1 : Int32)), .val (.int (1 : Int32)), .val (.ref bh103), .val (.int (1 : Int32)), .val (.int (1 : Int32))] [(.ref bc4), (.ref b1)])) rfl (by rw [hml]; rfl) (Steps.refl _) (argsL := [(.ref bc4)]) (rest := []) (lenOf own_pd8 rfl) rfl (by show 2 * 0 + _ ≤ _; exact Nat.le_of_eq rfl) (hb hby at_177) (fun _ _ => ⟨rfl, rfl, (by decide : 3 + 0 ≤ _), (by decide : 13 + 0 ≤ _)⟩)
            dsimp only [Pt.U, Pt.locs, Pt.cells, Pt.slots] at X135 l135 y135 z135 st135 hQ135
            subst l135 y135 z135
            obtain ⟨rfl, N135q, e135⟩ := hQ135
            have N135 := Fr.app N122 N135q
            refine Go.tr st135 ?_
            show Go p e below _ (T135.setTop (mkF m 180 #[.val (.int fi), .val (.int pv), .val (.long qv), .second, .val (.int av), .val (.int wv), .val (.int fl), .val (.ref b1), .val (.ref bc4), .val (.int (1 : Int32)), .val (.int (1 : Int32)), .val (.int (1 : Int32)), .val (.ref bh103), .val (.int (1 : Int32)), .val (.int (1 : Int32))] [(.int (1 : Int32))]))
            refine Go.st (fun _ kt => XS.iload X135.here hx rfl (hb hby at_180) rfl kt) ?_
            show Go p e below _ (T135.setTop (mkF m 182 #[.val (.int fi), .val (.int pv), .val (.long qv), .second, .val (.int av), .val (.int wv), .val (.int fl), .val (.ref b1), .val (.ref bc4), .val (.int (1 : Int32)), .val (.int (1 : Int32)), .val (.int (1 : Int32)), .val (.ref bh103), .val (.int (1 : Int32)), .val (.int (1 : Int32))] [(.int (1 : Int32)), (.int (1 : Int32))]))
            refine Go.st (fun _ kt => XS.icmpNo X135.here hx rfl (hb hby at_182) rfl (teq (by decide : (1 : Int32) = (1 : Int32))).2 kt) ?_
            show Go p e below _ (T135.setTop (mkF m 185 #[.val (.int fi), .val (.int pv), .val (.long qv), .second, .val (.int av), .val (.int wv), .val (.int fl), .val (.ref b1), .val (.ref bc4), .val (.int (1 : Int32)), .val (.int (1 : Int32)), .val (.int (1 : Int32)), .val (.ref bh103), .val (.int (1 : Int32)), .val (.int (1 : Int32))] []))
            refine Go.st (fun _ kt => XS.iconst X135.here hx rfl (hb hby at_185) kt) ?_
            show Go p e below _ (T135.setTop (mkF m 186 #[.val (.int fi), .val (.int pv), .val (.long qv), .second, .val (.int av), .val (.int wv), .val (.int fl), .val (.ref b1), .val (.ref bc4), .val (.int (1 : Int32)), .val (.int (1 : Int32)), .val (.int (1 : Int32)), .val (.ref bh103), .val (.int (1 : Int32)), .val (.int (1 : Int32))] [(.int (1 : Int32))]))
            refine Go.st (fun _ kt => XS.goto X135.here hx rfl (pc0 := 186) (pc' := 190) rfl (hb hby at_186) (by decide) (by decide) kt) ?_
            show Go p e below _ (T135.setTop (mkF m 190 #[.val (.int fi), .val (.int pv), .val (.long qv), .second, .val (.int av), .val (.int wv), .val (.int fl), .val (.ref b1), .val (.ref bc4), .val (.int (1 : Int32)), .val (.int (1 : Int32)), .val (.int (1 : Int32)), .val (.ref bh103), .val (.int (1 : Int32)), .val (.int (1 : Int32))] [(.int (1 : Int32))]))
            refine Go.retN X135 hx (t := .boolean) Bd.returns (by simp) (BodyLoose.notSynchronized Bd) (hb hby at_190) (Q := (Q_rm0 Z fi pv qv av wv fl h0 n0)) (by decide) (by decide) ?_
            show (Q_rm0 Z fi pv qv av wv fl h0 n0) _ T135.heap _
            rw [e135]
            exact ⟨rfl, N135⟩
          · refine Go.st (fun _ kt => XS.ifYes X122.here hx rfl (pc0 := 153) (pc' := 161) rfl (hb hby at_153) rfl ((if0 _ _).trans (feq hc153_133).2) (by decide) (by decide) kt) ?_
            show Go p e below _ (T122.setTop (mkF m 161 #[.val (.int fi), .val (.int pv), .val (.long qv), .second, .val (.int av), .val (.int wv), .val (.int fl), .val (.ref b1), .val (.ref bc4), .val (.int (1 : Int32)), .val (.int (1 : Int32)), .val (.int (1 : Int32)), .val (.ref bh103), .val (.int (1 : Int32)), .unset] []))
            refine Go.st (fun _ kt => XS.iconst X122.here hx rfl (hb hby at_161) kt) ?_
            show Go p e below _ (T122.setTop (mkF m 162 #[.val (.int fi), .val (.int pv), .val (.long qv), .second, .val (.int av), .val (.int wv), .val (.int fl), .val (.ref b1), .val (.ref bc4), .val (.int (1 : Int32)), .val (.int (1 : Int32)), .val (.int (1 : Int32)), .val (.ref bh103), .val (.int (1 : Int32)), .unset] [(.int (1 : Int32))]))
            refine Go.st (fun _ kt => XS.goto X122.here hx rfl (pc0 := 162) (pc' := 166) rfl (hb hby at_162) (by decide) (by decide) kt) ?_
            show Go p e below _ (T122.setTop (mkF m 166 #[.val (.int fi), .val (.int pv), .val (.long qv), .second, .val (.int av), .val (.int wv), .val (.int fl), .val (.ref b1), .val (.ref bc4), .val (.int (1 : Int32)), .val (.int (1 : Int32)), .val (.int (1 : Int32)), .val (.ref bh103), .val (.int (1 : Int32)), .unset] [(.int (1 : Int32))]))
            refine Go.st (fun _ kt => XS.istore X122.here hx rfl (hb hby at_166) rfl (l' := #[.val (.int fi), .val (.int pv), .val (.long qv), .second, .val (.int av), .val (.int wv), .val (.int fl), .val (.ref b1), .val (.ref bc4), .val (.int (1 : Int32)), .val (.int (1 : Int32)), .val (.int (1 : Int32)), .val (.ref bh103), .val (.int (1 : Int32)), .val (.int (1 : Int32))]) rfl kt) ?_
            show Go p e below _ (T122.setTop (mkF m 168 #[.val (.int fi), .val (.int pv), .val (.long qv), .second, .val (.int av), .val (.int wv), .val (.int fl), .val (.ref b1), .val (.ref bc4), .val (.int (1 : Int32)), .val (.int (1 : Int32)), .val (.int (1 : Int32)), .val (.ref bh103), .val (.int (1 : Int32)), .val (.int (1 : Int32))] []))
            refine Go.st (fun _ kt => XS.iload X122.here hx rfl (hb hby at_168) rfl kt) ?_
            show Go p e below _ (T122.setTop (mkF m 170 #[.val (.int fi), .val (.int pv), .val (.long qv), .second, .val (.int av), .val (.int wv), .val (.int fl), .val (.ref b1), .val (.ref bc4), .val (.int (1 : Int32)), .val (.int (1 : Int32)), .val (.int (1 : Int32)), .val (.ref bh103), .val (.int (1 : Int32)), .val (.int (1 : Int32))] [(.int (1 : Int32))]))
            refine Go.st (fun _ kt => XS.ifNo X122.here hx rfl (hb hby at_170) rfl ((if0 _ _).trans (feq (by decide : ¬ ((1 : Int32) = (0 : Int32)))).1) kt) ?_
            show Go p e below _ (T122.setTop (mkF m 173 #[.val (.int fi), .val (.int pv), .val (.long qv), .second, .val (.int av), .val (.int wv), .val (.int fl), .val (.ref b1), .val (.ref bc4), .val (.int (1 : Int32)), .val (.int (1 : Int32)), .val (.int (1 : Int32)), .val (.ref bh103), .val (.int (1 : Int32)), .val (.int (1 : Int32))] []))
            refine Go.st (fun _ kt => XS.aload X122.here hx rfl (hb hby at_173) rfl rfl kt) ?_
            show Go p e below _ (T122.setTop (mkF m 175 #[.val (.int fi), .val (.int pv), .val (.long qv), .second, .val (.int av), .val (.int wv), .val (.int fl), .val (.ref b1), .val (.ref bc4), .val (.int (1 : Int32)), .val (.int (1 : Int32)), .val (.int (1 : Int32)), .val (.ref bh103), .val (.int (1 : Int32)), .val (.int (1 : Int32))] [(.ref b1)]))
            refine Go.st (fun _ kt => XS.aload X122.here hx rfl (hb hby at_175) rfl rfl kt) ?_
            show Go p e below _ (T122.setTop (mkF m 177 #[.val (.int fi), .val (.int pv), .val (.long qv), .second, .val (.int av), .val (.int wv), .val (.int fl), .val (.ref b1), .val (.ref bc4), .val (.int (1 : Int32)), .val (.int (1 : Int32)), .val (.int (1 : Int32)), .val (.ref bh103), .val (.int (1 : Int32)), .val (.int (1 : Int32))] [(.ref bc4), (.ref b1)]))
            have f136 := ((((((Fx4.keep K103q (ninS (Nat.ne_of_gt lt_b1_bc4) nin0)).keep K104q (ninS (Nat.ne_of_gt lt_b1_bc4) nin0)).keep K109q (ninS (Nat.ne_of_lt lt_bc4_bh103) nin0)).keep K116q (ninS (Nat.ne_of_gt lt_b1_bc4) nin0)).keep K121q (ninS (Nat.ne_of_gt lt_b1_bc4) (ninS (Nat.ne_of_lt lt_bc4_bh103) nin0))).keep K122q (ninS (Nat.ne_of_gt lt_b1_bc4) nin0))
            obtain ⟨cq137, kq137, q137a, q137b, q137c⟩ := isOf hZ rfl E_k122
            obtain ⟨_, _, ⟨T137, L137, k137, n137⟩, -, X137, ⟨Lc137, hQ137, l137, y137, z137⟩, st137⟩ := X122.virtualBack hx (y := (⟨"com/example/manyhands/manyhands/crowd/Totals", "countedSince", "(Lcom/example/manyhands/manyhands/crowd/Totals;)Z"⟩ : MethodName)) (z := (⟨"com/example/manyhands/manyhands/crowd/Totals", "countedSince", "(Lcom/example/manyhands/manyhands/crowd/Totals;)Z"⟩ : MethodName)) hown (mvT hZ (hw _ (List.mem_of_getElem? (i := 31) rfl))) (mvT hZ (hw _ (List.mem_of_getElem? (i := 32) rfl))) (notFace_of_selects (args := #[]) (mvT hZ (hw _ (List.mem_of_getElem? (i := 34) rfl)))) (mvT hZ (hw _ (List.mem_of_getElem? (i := 34) rfl))) (mvT hZ (hw _ (List.mem_of_getElem? (i := 33) rfl))) (by decide) (backOf (W := 0) (rm6n l Z a0 hw [] b1 bc4 (own_c1 ((0 : Int64) + av.toInt64) (own_c1 qv (own_c0 pv (own_c0 fi (0 : Int64))))) (own_c0 fi (0 : Int64)) T122.heap n0 Zs122 Fnk122 f136 (own_ne0 _ (Or.inr (Or.inr (fun q => hc153_133 ((lw_eq _ _).mpr q)))))) hZ (hw _ (List.mem_of_getElem? (i := 35) rfl)) (hw _ (List.mem_of_getElem? (i := 2) rfl)) (by decide) (by decide)) q137a q137c (g := (mkF m 177 #[.val (.int fi), .val (.int pv), .val (.long qv), .second, .val (.int av), .val (.int wv), .val (.int fl), .val (.ref b1), .val (.ref bc4), .val (.int (1 : Int32)), .val (.int (1 : Int32)), .val (.int (1 : Int32)), .val (.ref bh103), .val (.int (1 : Int32)), .val (.int (1 : Int32))] [(.ref bc4), (.ref b1)])) rfl (by rw [hml]; rfl) (Steps.refl _) (argsL := [(.ref bc4)]) (rest := []) (lenOf own_pd8 rfl) rfl (by show 2 * 0 + _ ≤ _; exact Nat.le_of_eq rfl) (hb hby at_177) (fun _ _ => ⟨rfl, rfl, (by decide : 3 + 0 ≤ _), (by decide : 13 + 0 ≤ _)⟩)
            dsimp only [Pt.U, Pt.locs, Pt.cells, Pt.slots] at X137 l137 y137 z137 st137 hQ137
            subst l137 y137 z137
            obtain ⟨rfl, N137q, e137⟩ := hQ137
            have N137 := Fr.app N122 N137q
            refine Go.tr st137 ?_
            show Go p e below _ (T137.setTop (mkF m 180 #[.val (.int fi), .val (.int pv), .val (.long qv), .second, .val (.int av), .val (.int wv), .val (.int fl), .val (.ref b1), .val (.ref bc4), .val (.int (1 : Int32)), .val (.int (1 : Int32)), .val (.int (1 : Int32)), .val (.ref bh103), .val (.int (1 : Int32)), .val (.int (1 : Int32))] [(.int (1 : Int32))]))
            refine Go.st (fun _ kt => XS.iload X137.here hx rfl (hb hby at_180) rfl kt) ?_
            show Go p e below _ (T137.setTop (mkF m 182 #[.val (.int fi), .val (.int pv), .val (.long qv), .second, .val (.int av), .val (.int wv), .val (.int fl), .val (.ref b1), .val (.ref bc4), .val (.int (1 : Int32)), .val (.int (1 : Int32)), .val (.int (1 : Int32)), .val (.ref bh103), .val (.int (1 : Int32)), .val (.int (1 : Int32))] [(.int (1 : Int32)), (.int (1 : Int32))]))
            refine Go.st (fun _ kt => XS.icmpNo X137.here hx rfl (hb hby at_182) rfl (teq (by decide : (1 : Int32) = (1 : Int32))).2 kt) ?_
            show Go p e below _ (T137.setTop (mkF m 185 #[.val (.int fi), .val (.int pv), .val (.long qv), .second, .val (.int av), .val (.int wv), .val (.int fl), .val (.ref b1), .val (.ref bc4), .val (.int (1 : Int32)), .val (.int (1 : Int32)), .val (.int (1 : Int32)), .val (.ref bh103), .val (.int (1 : Int32)), .val (.int (1 : Int32))] []))
            refine Go.st (fun _ kt => XS.iconst X137.here hx rfl (hb hby at_185) kt) ?_
            show Go p e below _ (T137.setTop (mkF m 186 #[.val (.int fi), .val (.int pv), .val (.long qv), .second, .val (.int av), .val (.int wv), .val (.int fl), .val (.ref b1), .val (.ref bc4), .val (.int (1 : Int32)), .val (.int (1 : Int32)), .val (.int (1 : Int32)), .val (.ref bh103), .val (.int (1 : Int32)), .val (.int (1 : Int32))] [(.int (1 : Int32))]))
            refine Go.st (fun _ kt => XS.goto X137.here hx rfl (pc0 := 186) (pc' := 190) rfl (hb hby at_186) (by decide) (by decide) kt) ?_
            show Go p e below _ (T137.setTop (mkF m 190 #[.val (.int fi), .val (.int pv), .val (.long qv), .second, .val (.int av), .val (.int wv), .val (.int fl), .val (.ref b1), .val (.ref bc4), .val (.int (1 : Int32)), .val (.int (1 : Int32)), .val (.int (1 : Int32)), .val (.ref bh103), .val (.int (1 : Int32)), .val (.int (1 : Int32))] [(.int (1 : Int32))]))
            refine Go.retN X137 hx (t := .boolean) Bd.returns (by simp) (BodyLoose.notSynchronized Bd) (hb hby at_190) (Q := (Q_rm0 Z fi pv qv av wv fl h0 n0)) (by decide) (by decide) ?_
            show (Q_rm0 Z fi pv qv av wv fl h0 n0) _ T137.heap _
            rw [e137]
            exact ⟨rfl, N137⟩
        · refine Go.st (fun _ kt => XS.ifYes X122.here hx rfl (pc0 := 147) (pc' := 161) rfl (hb hby at_147) rfl ((if0 _ _).trans (feq hc147_132).2) (by decide) (by decide) kt) ?_
          show Go p e below _ (T122.setTop (mkF m 161 #[.val (.int fi), .val (.int pv), .val (.long qv), .second, .val (.int av), .val (.int wv), .val (.int fl), .val (.ref b1), .val (.ref bc4), .val (.int (1 : Int32)), .val (.int (1 : Int32)), .val (.int (1 : Int32)), .val (.ref bh103), .val (.int (1 : Int32)), .unset] []))
          refine Go.st (fun _ kt => XS.iconst X122.here hx rfl (hb hby at_161) kt) ?_
          show Go p e below _ (T122.setTop (mkF m 162 #[.val (.int fi), .val (.int pv), .val (.long qv), .second, .val (.int av), .val (.int wv), .val (.int fl), .val (.ref b1), .val (.ref bc4), .val (.int (1 : Int32)), .val (.int (1 : Int32)), .val (.int (1 : Int32)), .val (.ref bh103), .val (.int (1 : Int32)), .unset] [(.int (1 : Int32))]))
          refine Go.st (fun _ kt => XS.goto X122.here hx rfl (pc0 := 162) (pc' := 166) rfl (hb hby at_162) (by decide) (by decide) kt) ?_
          show Go p e below _ (T122.setTop (mkF m 166 #[.val (.int fi), .val (.int pv), .val (.long qv), .second, .val (.int av), .val (.int wv), .val (.int fl), .val (.ref b1), .val (.ref bc4), .val (.int (1 : Int32)), .val (.int (1 : Int32)), .val (.int (1 : Int32)), .val (.ref bh103), .val (.int (1 : Int32)), .unset] [(.int (1 : Int32))]))
          refine Go.st (fun _ kt => XS.istore X122.here hx rfl (hb hby at_166) rfl (l' := #[.val (.int fi), .val (.int pv), .val (.long qv), .second, .val (.int av), .val (.int wv), .val (.int fl), .val (.ref b1), .val (.ref bc4), .val (.int (1 : Int32)), .val (.int (1 : Int32)), .val (.int (1 : Int32)), .val (.ref bh103), .val (.int (1 : Int32)), .val (.int (1 : Int32))]) rfl kt) ?_
          show Go p e below _ (T122.setTop (mkF m 168 #[.val (.int fi), .val (.int pv), .val (.long qv), .second, .val (.int av), .val (.int wv), .val (.int fl), .val (.ref b1), .val (.ref bc4), .val (.int (1 : Int32)), .val (.int (1 : Int32)), .val (.int (1 : Int32)), .val (.ref bh103), .val (.int (1 : Int32)), .val (.int (1 : Int32))] []))
          refine Go.st (fun _ kt => XS.iload X122.here hx rfl (hb hby at_168) rfl kt) ?_
          show Go p e below _ (T122.setTop (mkF m 170 #[.val (.int fi), .val (.int pv), .val (.long qv), .second, .val (.int av), .val (.int wv), .val (.int fl), .val (.ref b1), .val (.ref bc4), .val (.int (1 : Int32)), .val (.int (1 : Int32)), .val (.int (1 : Int32)), .val (.ref bh103), .val (.int (1 : Int32)), .val (.int (1 : Int32))] [(.int (1 : Int32))]))
          refine Go.st (fun _ kt => XS.ifNo X122.here hx rfl (hb hby at_170) rfl ((if0 _ _).trans (feq (by decide : ¬ ((1 : Int32) = (0 : Int32)))).1) kt) ?_
          show Go p e below _ (T122.setTop (mkF m 173 #[.val (.int fi), .val (.int pv), .val (.long qv), .second, .val (.int av), .val (.int wv), .val (.int fl), .val (.ref b1), .val (.ref bc4), .val (.int (1 : Int32)), .val (.int (1 : Int32)), .val (.int (1 : Int32)), .val (.ref bh103), .val (.int (1 : Int32)), .val (.int (1 : Int32))] []))
          refine Go.st (fun _ kt => XS.aload X122.here hx rfl (hb hby at_173) rfl rfl kt) ?_
          show Go p e below _ (T122.setTop (mkF m 175 #[.val (.int fi), .val (.int pv), .val (.long qv), .second, .val (.int av), .val (.int wv), .val (.int fl), .val (.ref b1), .val (.ref bc4), .val (.int (1 : Int32)), .val (.int (1 : Int32)), .val (.int (1 : Int32)), .val (.ref bh103), .val (.int (1 : Int32)), .val (.int (1 : Int32))] [(.ref b1)]))
          refine Go.st (fun _ kt => XS.aload X122.here hx rfl (hb hby at_175) rfl rfl kt) ?_
          show Go p e below _ (T122.setTop (mkF m 177 #[.val (.int fi), .val (.int pv), .val (.long qv), .second, .val (.int av), .val (.int wv), .val (.int fl), .val (.ref b1), .val (.ref bc4), .val (.int (1 : Int32)), .val (.int (1 : Int32)), .val (.int (1 : Int32)), .val (.ref bh103), .val (.int (1 : Int32)), .val (.int (1 : Int32))] [(.ref bc4), (.ref b1)]))
          have f138 := ((((((Fx4.keep K103q (ninS (Nat.ne_of_gt lt_b1_bc4) nin0)).keep K104q (ninS (Nat.ne_of_gt lt_b1_bc4) nin0)).keep K109q (ninS (Nat.ne_of_lt lt_bc4_bh103) nin0)).keep K116q (ninS (Nat.ne_of_gt lt_b1_bc4) nin0)).keep K121q (ninS (Nat.ne_of_gt lt_b1_bc4) (ninS (Nat.ne_of_lt lt_bc4_bh103) nin0))).keep K122q (ninS (Nat.ne_of_gt lt_b1_bc4) nin0))
          obtain ⟨cq139, kq139, q139a, q139b, q139c⟩ := isOf hZ rfl E_k122
          obtain ⟨_, _, ⟨T139, L139, k139, n139⟩, -, X139, ⟨Lc139, hQ139, l139, y139, z139⟩, st139⟩ := X122.virtualBack hx (y := (⟨"com/example/manyhands/manyhands/crowd/Totals", "countedSince", "(Lcom/example/manyhands/manyhands/crowd/Totals;)Z"⟩ : MethodName)) (z := (⟨"com/example/manyhands/manyhands/crowd/Totals", "countedSince", "(Lcom/example/manyhands/manyhands/crowd/Totals;)Z"⟩ : MethodName)) hown (mvT hZ (hw _ (List.mem_of_getElem? (i := 31) rfl))) (mvT hZ (hw _ (List.mem_of_getElem? (i := 32) rfl))) (notFace_of_selects (args := #[]) (mvT hZ (hw _ (List.mem_of_getElem? (i := 34) rfl)))) (mvT hZ (hw _ (List.mem_of_getElem? (i := 34) rfl))) (mvT hZ (hw _ (List.mem_of_getElem? (i := 33) rfl))) (by decide) (backOf (W := 0) (rm6n l Z a0 hw [] b1 bc4 (own_c1 ((0 : Int64) + av.toInt64) (own_c1 qv (own_c0 pv (own_c0 fi (0 : Int64))))) (own_c0 fi (0 : Int64)) T122.heap n0 Zs122 Fnk122 f138 (own_ne0 _ (Or.inl hc147_132))) hZ (hw _ (List.mem_of_getElem? (i := 35) rfl)) (hw _ (List.mem_of_getElem? (i := 2) rfl)) (by decide) (by decide)) q139a q139c (g := (mkF m 177 #[.val (.int fi), .val (.int pv), .val (.long qv), .second, .val (.int av), .val (.int wv), .val (.int fl), .val (.ref b1), .val (.ref bc4), .val (.int (1 : Int32)), .val (.int (1 : Int32)), .val (.int (1 : Int32)), .val (.ref bh103), .val (.int (1 : Int32)), .val (.int (1 : Int32))] [(.ref bc4), (.ref b1)])) rfl (by rw [hml]; rfl) (Steps.refl _) (argsL := [(.ref bc4)]) (rest := []) (lenOf own_pd8 rfl) rfl (by show 2 * 0 + _ ≤ _; exact Nat.le_of_eq rfl) (hb hby at_177) (fun _ _ => ⟨rfl, rfl, (by decide : 3 + 0 ≤ _), (by decide : 13 + 0 ≤ _)⟩)
          dsimp only [Pt.U, Pt.locs, Pt.cells, Pt.slots] at X139 l139 y139 z139 st139 hQ139
          subst l139 y139 z139
          obtain ⟨rfl, N139q, e139⟩ := hQ139
          have N139 := Fr.app N122 N139q
          refine Go.tr st139 ?_
          show Go p e below _ (T139.setTop (mkF m 180 #[.val (.int fi), .val (.int pv), .val (.long qv), .second, .val (.int av), .val (.int wv), .val (.int fl), .val (.ref b1), .val (.ref bc4), .val (.int (1 : Int32)), .val (.int (1 : Int32)), .val (.int (1 : Int32)), .val (.ref bh103), .val (.int (1 : Int32)), .val (.int (1 : Int32))] [(.int (1 : Int32))]))
          refine Go.st (fun _ kt => XS.iload X139.here hx rfl (hb hby at_180) rfl kt) ?_
          show Go p e below _ (T139.setTop (mkF m 182 #[.val (.int fi), .val (.int pv), .val (.long qv), .second, .val (.int av), .val (.int wv), .val (.int fl), .val (.ref b1), .val (.ref bc4), .val (.int (1 : Int32)), .val (.int (1 : Int32)), .val (.int (1 : Int32)), .val (.ref bh103), .val (.int (1 : Int32)), .val (.int (1 : Int32))] [(.int (1 : Int32)), (.int (1 : Int32))]))
          refine Go.st (fun _ kt => XS.icmpNo X139.here hx rfl (hb hby at_182) rfl (teq (by decide : (1 : Int32) = (1 : Int32))).2 kt) ?_
          show Go p e below _ (T139.setTop (mkF m 185 #[.val (.int fi), .val (.int pv), .val (.long qv), .second, .val (.int av), .val (.int wv), .val (.int fl), .val (.ref b1), .val (.ref bc4), .val (.int (1 : Int32)), .val (.int (1 : Int32)), .val (.int (1 : Int32)), .val (.ref bh103), .val (.int (1 : Int32)), .val (.int (1 : Int32))] []))
          refine Go.st (fun _ kt => XS.iconst X139.here hx rfl (hb hby at_185) kt) ?_
          show Go p e below _ (T139.setTop (mkF m 186 #[.val (.int fi), .val (.int pv), .val (.long qv), .second, .val (.int av), .val (.int wv), .val (.int fl), .val (.ref b1), .val (.ref bc4), .val (.int (1 : Int32)), .val (.int (1 : Int32)), .val (.int (1 : Int32)), .val (.ref bh103), .val (.int (1 : Int32)), .val (.int (1 : Int32))] [(.int (1 : Int32))]))
          refine Go.st (fun _ kt => XS.goto X139.here hx rfl (pc0 := 186) (pc' := 190) rfl (hb hby at_186) (by decide) (by decide) kt) ?_
          show Go p e below _ (T139.setTop (mkF m 190 #[.val (.int fi), .val (.int pv), .val (.long qv), .second, .val (.int av), .val (.int wv), .val (.int fl), .val (.ref b1), .val (.ref bc4), .val (.int (1 : Int32)), .val (.int (1 : Int32)), .val (.int (1 : Int32)), .val (.ref bh103), .val (.int (1 : Int32)), .val (.int (1 : Int32))] [(.int (1 : Int32))]))
          refine Go.retN X139 hx (t := .boolean) Bd.returns (by simp) (BodyLoose.notSynchronized Bd) (hb hby at_190) (Q := (Q_rm0 Z fi pv qv av wv fl h0 n0)) (by decide) (by decide) ?_
          show (Q_rm0 Z fi pv qv av wv fl h0 n0) _ T139.heap _
          rw [e139]
          exact ⟨rfl, N139⟩
set_option maxRecDepth 65536 in
set_option maxHeartbeats 40000000 in
theorem comes_1 {Post : Tables → Env → Array Value → State → Outcome → State → Prop} (hpost : ∀ tb e args s v u, (limb_1_1.after args s (.returned v) u = true ∧ limb_1_2.after args s (.returned v) u = true ∧ True) → FrameEnd s (.returned v) u (Jvm.fieldLocs frame_1_writes args s ++ Jvm.arrayLocs frame_1_arrays args s ++ Jvm.staticLocs frame_1_statics s) 16 128 → Post tb e args s (.returned v) u) :
    ArmFor flags0 classFile x code maxLocals ret World_1 tables_1 room_1 Calls_1 rest_1 Pre_1 Post := by
  intro l hfl _ _ p e ha hc hk s m args below hf hA hF happ hP
  obtain ⟨hcalls, hrest, hpre⟩ := hP
  obtain ⟨-, -, -, hnamed, -, -, -, hat⟩ := (Spec.applies_iff hf).mp happ
  obtain ⟨hg, hn⟩ := and_e (Cond.before_iff.mp (show (Jvm.Cond.and given_1 narrow_1).before args s = true from hpre))
  obtain ⟨g1, g2⟩ := and_e hg
  obtain ⟨g3, g4⟩ := and_e g2
  obtain ⟨g5, g6⟩ := and_e g4
  obtain ⟨g7, g8⟩ := and_e g6
  obtain ⟨g9, g10⟩ := and_e g8
  obtain ⟨g11, g12⟩ := and_e g10
  obtain ⟨w0, w1, w2, w3, w4, w5, rfl⟩ : ∃ w0 w1 w2 w3 w4 w5 : Value, args = #[w0, w1, w2, w3, w4, w5] := by
    have hs : args.size = 6 := by simpa [Cond.value, given_1] using g1
    obtain ⟨L⟩ := args
    match L, hs with
    | [w0, w1, w2, w3, w4, w5], _ => exact ⟨w0, w1, w2, w3, w4, w5, rfl⟩
  have hw := fun d (hd : d ∈ tables_1) => atoms_spec (ws := Jvm.Cond.code x code maxLocals ret :: tables_1) hat d (List.mem_cons_of_mem _ hd)
  have hfit : Fit s := fun {y c} hc i hi => by
    obtain ⟨ha, rfl⟩ := Array.getElem?_eq_some_iff.mp hc
    have q := List.all_eq_true.mp ((Array.all_eq_true_iff_forall_mem.mp hF) _ (Array.getElem_mem ha)) i (List.mem_range.mpr hi)
    simpa [Array.getElem?_eq_getElem hi] using q
  obtain ⟨i0, ei0⟩ := is_v g3
  obtain rfl : w0 = (.int i0) := Option.some.inj ei0
  obtain ⟨i1, ei1⟩ := is_v g5
  obtain rfl : w1 = (.int i1) := Option.some.inj ei1
  obtain ⟨i2, ei2⟩ := isL_v g7
  obtain rfl : w2 = (.long i2) := Option.some.inj ei2
  obtain ⟨i3, ei3⟩ := is_v g9
  obtain rfl : w3 = (.int i3) := Option.some.inj ei3
  obtain ⟨i4, ei4⟩ := is_v g11
  obtain rfl : w4 = (.int i4) := Option.some.inj ei4
  obtain ⟨i5, ei5⟩ := is_v g12
  obtain rfl : w5 = (.int i5) := Option.some.inj ei5
  obtain ⟨n, o, h1, h2, h3, _, L, rfl, ⟨rfl, N⟩, hq⟩ := rm0 l s _ hw tables_1 i0 i1 i2 i3 i4 i5 s.heap s.heap.size (Nat.le_refl _) p e ha hc hk s m _ below hf ((Spec.applies_iff_loose hf).mp happ).1 ⟨rfl, State.Warmed39.refl s, rfl⟩ trivial
  refine ⟨n, _, h1, h2, h3, hpost _ _ _ _ _ _ ⟨Cond.after_iff.mpr rfl, Cond.after_iff.mpr (eq_i res_at (Term.int_eval (1)) rfl), trivial⟩ ⟨hq.1, hq.2.1, (hq.2.2.sift fun y hy => Or.inr (N y hy)).mono (by decide) (by decide)⟩⟩
theorem main_1_1 : Claimed_1_1 := comes_1 fun _ _ _ _ _ _ h hF => ⟨h.1, hF⟩
theorem main_1_2 : Claimed_1_2 := comes_1 fun _ _ _ _ _ _ h hF => ⟨h.2.1, hF⟩
end Jvm.Pilot.@@N@@
namespace Jvm.Pilot.@@N@@
open Jvm Jvm.ClassFile Sem Op Lib Jvm.Free Jvm.Stand Jvm.Pilot.@@N@@.Jvm.D
/-! MADE BY PROGRAM (witnessworld.py) out of the Statement's table words and the real class files: 11 classes; the members and pool entries that the words name. The judged class is class 1, her method 1. -/
namespace start1
open Jvm.ClassFile
def u (s : String) : CpInfo := .utf8 (stringToUtf16 s)
/-- a pool by its gaps: so many unusable entries, then the entry; so many at the end -/
def gap : Nat → List CpInfo → List CpInfo
  | 0, r => r
  | n + 1, r => .unusable :: gap n r
def poolList (es : List (Nat × CpInfo)) (last : Nat) : List CpInfo := es.foldr (fun e r => gap e.1 (e.2 :: r)) (gap last [])
def pool (es : List (Nat × CpInfo)) (last : Nat) : Array CpInfo := ⟨poolList es last⟩
def fileOf (pool : Array CpInfo) (this : Nat) (attrs : Array Attribute := #[]) (ms : Array MethodInfo := #[]) (fl : Nat := 33) (sup : Nat := 0) (ifs : Array Nat := #[]) (fds : Array FieldInfo := #[]) : ClassFile where
  minorVersion := 0
  majorVersion := 65
  constantPool := pool
  accessFlags := fl
  thisClass := this
  superClass := sup
  interfaces := ifs
  fields := fds
  methods := ms
  attributes := attrs
def plain (name : String) (sup : Option ClassId) : Class where
  name := name
  kind := .ordinary
  loader := none
  accessFlags := 33
  super := sup
  interfaces := #[]
  cf := none
  fields := #[]
  methods := #[]
  instanceTypes := #[]
  staticTypes := #[]
  resolved := #[]
  callSites := []
  init := .initialized
  statics := none
  mirror := none

def pool0 : Array CpInfo := pool [(5, u "<init>"), (0, u "()V"), (1, .class_ 10), (1, u "java/lang/Object")] 113

def k0c0 : Code := { maxStack := 0, maxLocals := 1, code := object_method_1_code, exceptionTable := #[], attributes := #[] }
def k0m0 : Method := { name := "<init>", desc := "()V", sig := { parameters := [], returnType := none }, accessFlags := 1, code := some k0c0 }
/-- java/lang/Object -/
def k0 : Class := { plain "java/lang/Object" none with
  accessFlags := 33
  interfaces := #[]
  cf := some (fileOf pool0 8 #[] #[{ accessFlags := 1, nameIndex := 5, descriptorIndex := 6, attributes := #[] }] 33 0 #[] #[])
  fields := #[]
  methods := #[k0m0]
  instanceTypes := #[]
  staticTypes := #[]
  resolved := Array.replicate 124 none
  statics := none }

def pool1 : Array CpInfo := pool [(2, .class_ 4), (0, .nameAndType 5 6), (0, u "java/lang/Object"), (0, u "<init>"), (0, u "()V"), (0, .class_ 8), (0, u "com/example/manyhands/manyhands/crowd/Totals"), (0, .methodref 7 3), (0, .methodref 7 11), (0, .nameAndType 12 13), (0, u "addTasks"), (0, u "(I)V"), (0, .methodref 7 15), (0, .nameAndType 16 17), (0, u "copy"), (0, u "()Lcom/example/manyhands/manyhands/crowd/Totals;"), (0, .methodref 7 19), (0, .nameAndType 20 21), (0, u "countedSince"), (0, u "(Lcom/example/manyhands/manyhands/crowd/Totals;)Z"), (0, .methodref 7 23), (0, .nameAndType 24 25), (0, u "hold"), (0, u "()Lcom/example/manyhands/manyhands/crowd/Totals$Held;"), (0, .methodref 7 27), (0, .nameAndType 28 29), (0, u "addAnswers"), (0, u "(II)V"), (0, .methodref 7 31), (0, .nameAndType 32 33), (0, u "addKeptEarlier"), (0, u "(JJ)V"), (0, .methodref 35 36), (0, .class_ 37), (0, .nameAndType 38 6), (0, u "com/example/manyhands/manyhands/crowd/Totals$Held"), (0, u "count"), (0, .methodref 35 40), (0, .nameAndType 41 6), (0, u "close"), (0, .class_ 43), (0, u "com/example/manyhands/manyhands/crowd/TotalsCountedSincePinLaw"), (2, u "law"), (0, u "(IIJIII)Z")] 5

def k1m0 : Method := { name := "<init>", desc := "()V", sig := { parameters := [], returnType := none }, accessFlags := 1, code := none }
def k1c1 : Code := { maxStack := 5, maxLocals := 15, code := code, exceptionTable := #[], attributes := #[] }
def k1m1 : Method := { name := "law", desc := "(IIJIII)Z", sig := { parameters := [.int, .int, .long, .int, .int, .int], returnType := some .boolean }, accessFlags := 9, code := some k1c1 }
/-- com/example/manyhands/manyhands/crowd/TotalsCountedSincePinLaw -/
def k1 : Class := { plain "com/example/manyhands/manyhands/crowd/TotalsCountedSincePinLaw" (some 0) with
  accessFlags := 49
  interfaces := #[]
  cf := some (fileOf pool1 42 #[] #[{ accessFlags := 1, nameIndex := 5, descriptorIndex := 6, attributes := #[] }, { accessFlags := 9, nameIndex := 46, descriptorIndex := 47, attributes := #[] }] 49 2 #[] #[])
  fields := #[]
  methods := #[k1m0, k1m1]
  instanceTypes := #[]
  staticTypes := #[]
  resolved := Array.replicate 53 none
  statics := none }

def pool2 : Array CpInfo := pool [(1, .methodref 2 3), (0, .class_ 4), (0, .nameAndType 5 6), (0, u "java/lang/Object"), (0, u "<init>"), (0, u "()V"), (0, .methodref 8 9), (0, .class_ 10), (0, .nameAndType 5 11), (0, u "com/example/manyhands/manyhands/crowd/Totals"), (0, u "(JJJJ)V"), (0, .fieldref 8 13), (0, .nameAndType 14 15), (0, u "tasks"), (0, u "J"), (0, .fieldref 8 17), (0, .nameAndType 18 15), (0, u "assignments"), (0, .fieldref 8 20), (0, .nameAndType 21 15), (0, u "cents"), (0, .fieldref 8 23), (0, .nameAndType 24 15), (0, u "counted"), (0, .fieldref 8 26), (0, .nameAndType 27 28), (0, u "held"), (0, u "Lcom/example/manyhands/manyhands/crowd/Totals$Held;"), (0, .fieldref 30 31), (0, .class_ 32), (0, .nameAndType 33 15), (0, u "com/example/manyhands/manyhands/crowd/Totals$Held"), (0, u "answers"), (0, .fieldref 30 35), (0, .nameAndType 36 15), (0, u "cost"), (0, .methodref 8 38), (0, .nameAndType 39 40), (0, u "add"), (0, u "(JJ)V"), (7, .methodref 30 49), (0, .nameAndType 5 50), (0, u "(Lcom/example/manyhands/manyhands/crowd/Totals;)V"), (17, u "addTasks"), (0, u "(I)V"), (1, u "addAnswers"), (0, u "(II)V"), (0, u "addKeptEarlier"), (0, u "hold"), (0, u "()Lcom/example/manyhands/manyhands/crowd/Totals$Held;"), (0, u "copy"), (0, u "()Lcom/example/manyhands/manyhands/crowd/Totals;"), (0, u "countedSince"), (0, u "(Lcom/example/manyhands/manyhands/crowd/Totals;)Z")] 29

def k2c0 : Code := { maxStack := 1, maxLocals := 1, code := prog_54_method_1_code, exceptionTable := #[], attributes := #[] }
def k2m0 : Method := { name := "<init>", desc := "()V", sig := { parameters := [], returnType := none }, accessFlags := 1, code := some k2c0 }
def k2c1 : Code := { maxStack := 3, maxLocals := 9, code := prog_54_method_3_code, exceptionTable := #[], attributes := #[] }
def k2m1 : Method := { name := "<init>", desc := "(JJJJ)V", sig := { parameters := [.long, .long, .long, .long], returnType := none }, accessFlags := 2, code := some k2c1 }
def k2c2 : Code := { maxStack := 5, maxLocals := 2, code := prog_54_method_4_code, exceptionTable := #[], attributes := #[] }
def k2m2 : Method := { name := "addTasks", desc := "(I)V", sig := { parameters := [.int], returnType := none }, accessFlags := 33, code := some k2c2 }
def k2c3 : Code := { maxStack := 5, maxLocals := 5, code := prog_54_method_5_code, exceptionTable := #[], attributes := #[] }
def k2m3 : Method := { name := "addAnswers", desc := "(II)V", sig := { parameters := [.int, .int], returnType := none }, accessFlags := 32, code := some k2c3 }
def k2c4 : Code := { maxStack := 5, maxLocals := 5, code := prog_54_method_6_code, exceptionTable := #[], attributes := #[] }
def k2m4 : Method := { name := "add", desc := "(JJ)V", sig := { parameters := [.long, .long], returnType := none }, accessFlags := 2, code := some k2c4 }
def k2c5 : Code := { maxStack := 5, maxLocals := 5, code := prog_54_method_7_code, exceptionTable := #[], attributes := #[] }
def k2m5 : Method := { name := "addKeptEarlier", desc := "(JJ)V", sig := { parameters := [.long, .long], returnType := none }, accessFlags := 33, code := some k2c5 }
def k2c6 : Code := { maxStack := 4, maxLocals := 1, code := prog_54_method_8_code, exceptionTable := #[], attributes := #[] }
def k2m6 : Method := { name := "hold", desc := "()Lcom/example/manyhands/manyhands/crowd/Totals$Held;", sig := { parameters := [], returnType := some (.object "com/example/manyhands/manyhands/crowd/Totals$Held") }, accessFlags := 33, code := some k2c6 }
def k2c7 : Code := { maxStack := 10, maxLocals := 1, code := prog_54_method_9_code, exceptionTable := #[], attributes := #[] }
def k2m7 : Method := { name := "copy", desc := "()Lcom/example/manyhands/manyhands/crowd/Totals;", sig := { parameters := [], returnType := some (.object "com/example/manyhands/manyhands/crowd/Totals") }, accessFlags := 33, code := some k2c7 }
def k2c8 : Code := { maxStack := 4, maxLocals := 2, code := prog_54_method_10_code, exceptionTable := #[], attributes := #[] }
def k2m8 : Method := { name := "countedSince", desc := "(Lcom/example/manyhands/manyhands/crowd/Totals;)Z", sig := { parameters := [(.object "com/example/manyhands/manyhands/crowd/Totals")], returnType := some .boolean }, accessFlags := 1, code := some k2c8 }
/-- com/example/manyhands/manyhands/crowd/Totals -/
def k2 : Class := { plain "com/example/manyhands/manyhands/crowd/Totals" (some 0) with
  accessFlags := 49
  interfaces := #[]
  cf := some (fileOf pool2 8 #[.nestMembers #[30]] #[{ accessFlags := 1, nameIndex := 5, descriptorIndex := 6, attributes := #[] }, { accessFlags := 2, nameIndex := 5, descriptorIndex := 11, attributes := #[] }, { accessFlags := 33, nameIndex := 68, descriptorIndex := 69, attributes := #[] }, { accessFlags := 32, nameIndex := 71, descriptorIndex := 72, attributes := #[] }, { accessFlags := 2, nameIndex := 39, descriptorIndex := 40, attributes := #[] }, { accessFlags := 33, nameIndex := 73, descriptorIndex := 40, attributes := #[] }, { accessFlags := 33, nameIndex := 74, descriptorIndex := 75, attributes := #[] }, { accessFlags := 33, nameIndex := 76, descriptorIndex := 77, attributes := #[] }, { accessFlags := 1, nameIndex := 78, descriptorIndex := 79, attributes := #[] }] 49 2 #[] #[{ accessFlags := 2, nameIndex := 14, descriptorIndex := 15, attributes := #[] }, { accessFlags := 2, nameIndex := 18, descriptorIndex := 15, attributes := #[] }, { accessFlags := 2, nameIndex := 21, descriptorIndex := 15, attributes := #[] }, { accessFlags := 66, nameIndex := 24, descriptorIndex := 15, attributes := #[] }, { accessFlags := 2, nameIndex := 27, descriptorIndex := 28, attributes := #[] }])
  fields := #[{ name := "tasks", type := .long, accessFlags := 2, slot := 0, constantValue := 0 }, { name := "assignments", type := .long, accessFlags := 2, slot := 1, constantValue := 0 }, { name := "cents", type := .long, accessFlags := 2, slot := 2, constantValue := 0 }, { name := "counted", type := .long, accessFlags := 66, slot := 3, constantValue := 0 }, { name := "held", type := (.object "com/example/manyhands/manyhands/crowd/Totals$Held"), accessFlags := 2, slot := 4, constantValue := 0 }]
  methods := #[k2m0, k2m1, k2m2, k2m3, k2m4, k2m5, k2m6, k2m7, k2m8]
  instanceTypes := #[.long, .long, .long, .long, (.object "com/example/manyhands/manyhands/crowd/Totals$Held")]
  staticTypes := #[]
  resolved := (((((Array.replicate 109 none).set! 29 (some (.field 4 0))).set! 34 (some (.field 4 1))).set! 48 (some (.method ⟨4, 0⟩))).set! 30 (some (.cls 4)))
  statics := none }

def pool3 : Array CpInfo := pool [(1, .class_ 2), (0, u "java/lang/AutoCloseable"), (0, .class_ 4), (0, u "java/lang/Object")] 7

/-- java/lang/AutoCloseable -/
def k3 : Class := { plain "java/lang/AutoCloseable" (some 0) with
  accessFlags := 1537
  interfaces := #[]
  cf := some (fileOf pool3 1 #[] #[] 1537 3 #[] #[])
  fields := #[]
  methods := #[]
  instanceTypes := #[]
  staticTypes := #[]
  resolved := Array.replicate 12 none
  statics := none }

def pool4 : Array CpInfo := pool [(1, .fieldref 2 3), (0, .class_ 4), (0, .nameAndType 5 6), (0, u "com/example/manyhands/manyhands/crowd/Totals$Held"), (0, u "this$0"), (0, u "Lcom/example/manyhands/manyhands/crowd/Totals;"), (0, .methodref 8 9), (0, .class_ 10), (0, .nameAndType 11 12), (0, u "java/lang/Object"), (0, u "<init>"), (0, u "()V"), (0, .fieldref 2 14), (0, .nameAndType 15 16), (0, u "answers"), (0, u "J"), (0, .fieldref 2 18), (0, .nameAndType 19 16), (0, u "cost"), (0, .methodref 21 22), (0, .class_ 23), (0, .nameAndType 24 25), (0, u "com/example/manyhands/manyhands/crowd/Totals"), (0, u "add"), (0, u "(JJ)V"), (0, .fieldref 21 27), (0, .nameAndType 28 29), (0, u "held"), (0, u "Lcom/example/manyhands/manyhands/crowd/Totals$Held;"), (0, .class_ 31), (0, u "java/lang/AutoCloseable"), (0, u "(Lcom/example/manyhands/manyhands/crowd/Totals;)V"), (8, u "count"), (0, u "close")] 5

def k4c0 : Code := { maxStack := 2, maxLocals := 2, code := prog_55_method_1_code, exceptionTable := #[], attributes := #[] }
def k4m0 : Method := { name := "<init>", desc := "(Lcom/example/manyhands/manyhands/crowd/Totals;)V", sig := { parameters := [(.object "com/example/manyhands/manyhands/crowd/Totals")], returnType := none }, accessFlags := 2, code := some k4c0 }
def k4c1 : Code := { maxStack := 5, maxLocals := 3, code := prog_55_method_4_code, exceptionTable := #[{ startPc := 7, endPc := 34, handlerPc := 37, catchType := 0 }, { startPc := 37, endPc := 40, handlerPc := 37, catchType := 0 }], attributes := #[] }
def k4m1 : Method := { name := "count", desc := "()V", sig := { parameters := [], returnType := none }, accessFlags := 1, code := some k4c1 }
def k4c2 : Code := { maxStack := 2, maxLocals := 3, code := prog_55_method_5_code, exceptionTable := #[{ startPc := 7, endPc := 17, handlerPc := 20, catchType := 0 }, { startPc := 20, endPc := 23, handlerPc := 20, catchType := 0 }], attributes := #[] }
def k4m2 : Method := { name := "close", desc := "()V", sig := { parameters := [], returnType := none }, accessFlags := 1, code := some k4c2 }
/-- com/example/manyhands/manyhands/crowd/Totals$Held -/
def k4 : Class := { plain "com/example/manyhands/manyhands/crowd/Totals$Held" (some 0) with
  accessFlags := 49
  interfaces := #[3]
  cf := some (fileOf pool4 2 #[.nestHost 21] #[{ accessFlags := 2, nameIndex := 11, descriptorIndex := 32, attributes := #[] }, { accessFlags := 1, nameIndex := 41, descriptorIndex := 12, attributes := #[] }, { accessFlags := 1, nameIndex := 42, descriptorIndex := 12, attributes := #[] }] 49 8 #[30] #[{ accessFlags := 2, nameIndex := 15, descriptorIndex := 16, attributes := #[] }, { accessFlags := 2, nameIndex := 19, descriptorIndex := 16, attributes := #[] }, { accessFlags := 4112, nameIndex := 5, descriptorIndex := 6, attributes := #[] }])
  fields := #[{ name := "answers", type := .long, accessFlags := 2, slot := 0, constantValue := 0 }, { name := "cost", type := .long, accessFlags := 2, slot := 1, constantValue := 0 }, { name := "this$0", type := (.object "com/example/manyhands/manyhands/crowd/Totals"), accessFlags := 4112, slot := 2, constantValue := 0 }]
  methods := #[k4m0, k4m1, k4m2]
  instanceTypes := #[.long, .long, (.object "com/example/manyhands/manyhands/crowd/Totals")]
  staticTypes := #[]
  resolved := Array.replicate 48 none
  statics := none }

def pool5 : Array CpInfo := pool [(1, u "java/lang/Cloneable"), (0, .class_ 1), (0, u "java/lang/Object"), (0, .class_ 3)] 3

/-- java/lang/Cloneable -/
def k5 : Class := { plain "java/lang/Cloneable" (some 0) with
  accessFlags := 1537
  interfaces := #[]
  cf := some (fileOf pool5 2 #[] #[] 1537 4 #[] #[])
  fields := #[]
  methods := #[]
  instanceTypes := #[]
  staticTypes := #[]
  resolved := Array.replicate 8 none
  statics := none }

def pool6 : Array CpInfo := pool [(1, u "java/io/Serializable"), (0, .class_ 1), (0, u "java/lang/Object"), (0, .class_ 3)] 3

/-- java/io/Serializable -/
def k6 : Class := { plain "java/io/Serializable" (some 0) with
  accessFlags := 1537
  interfaces := #[]
  cf := some (fileOf pool6 2 #[] #[] 1537 4 #[] #[])
  fields := #[]
  methods := #[]
  instanceTypes := #[]
  staticTypes := #[]
  resolved := Array.replicate 8 none
  statics := none }

/-- the primitive byte -/
def k7 : Class := { plain "byte" none with kind := .primitive 'B', accessFlags := 0x411 }
/-- [B -/
def k8 : Class := { plain "[B" (some 0) with kind := .array 7 .byte, interfaces := #[5, 6], accessFlags := 1041 }

/-- the primitive int -/
def k9 : Class := { plain "int" none with kind := .primitive 'I', accessFlags := 0x411 }
/-- [I -/
def k10 : Class := { plain "[I" (some 0) with kind := .array 9 .int, interfaces := #[5, 6], accessFlags := 1041 }

def heap : Heap := #[]
def classes : Array Class := #[k0, k1, k2, k3, k4, k5, k6, k7, k8, k9, k10]
def interned : List (Array UInt16 × Addr) := []
def slotsUsed : Nat := 0
def theMethod : MethodId := ⟨1, 1⟩
def args0 : Array Value := #[.int 3, .int 4, .long 5, .int 6, .int 7, .int 1]
def aboutOver (below : List Frame) : State where
  vm := { classes := classes, interned := interned.toArray }
  heap := heap
  slotsUsed := slotsUsed
  threads := #[{ frames := .invoking theMethod args0 :: below }]
def below0 : List Frame := [.native { method := ⟨0, 0⟩, args := #[] }]
def about1 : State := aboutOver below0
def p0 : Program := .bare "" "" ""
def e0 : Env := launch0.env 0 0 0
theorem w_frames : about1.frames = Frame.invoking theMethod args0 :: below0 := rfl
set_option maxRecDepth 65536 in
theorem w_args : argsFit about1.vm theMethod args0 = true := by decide +kernel
set_option maxRecDepth 65536 in
theorem w_heap : heapFits about1 = true := by decide +kernel
set_option maxRecDepth 65536 in
theorem w_runnable : about1.curStatus? = some .runnable := by decide +kernel
set_option maxRecDepth 65536 in
theorem w_alone : about1.alone = true := by decide +kernel
set_option maxRecDepth 65536 in
theorem w_named : about1.methodNamed? x = some theMethod := by decide +kernel
set_option maxRecDepth 65536 in
theorem w_hears : about1.hears theMethod below0 = true := by decide +kernel
set_option maxRecDepth 65536 in
theorem w_ripe : about1.ripe theMethod args0 below0 = true := by decide +kernel
theorem w_running : about1.status = .running := rfl
set_option maxRecDepth 65536 in
theorem w_room : about1.hasRoom e0.platform room_1 = true :=
  launch0.hasRoom_least _ room_1 (by decide +kernel) (by decide +kernel) (by decide +kernel) (by decide +kernel) (by decide +kernel) (by decide +kernel)
theorem allAtoms_all (ts : List Jvm.Cond) (a : Array Jvm.Value) (st : Jvm.State) : (allAtoms ts).before a st = ts.all (fun c => c.before a st) := by
  induction ts with
  | nil => rfl
  | cons c t ih =>
    show (Jvm.Cond.and c (allAtoms t)).before a st = _
    rw [Jvm.Cond.before_and, ih, List.all_cons]
def words1 : List Jvm.Cond := Jvm.Cond.code x code maxLocals ret :: tables_1
/-- a 'code' word, met by the world's own term for the bytes: nothing is compared byte by byte -/
theorem code_word {y : MethodName} {bytes : ByteArray} {mx : Nat} {rt : Option FieldType} {a : Array Value} {s : State} {m : MethodId} {meth : Method} {c : Code} (h1 : s.methodNamed? y = some m) (h2 : s.vm.method? m = some meth) (h3 : meth.code = some c) (h4 : c.code = bytes)
    (h5 : (c.maxLocals == mx && c.exceptionTable.isEmpty && decide (c.maxStack ≤ mostOperands) && decide (meth.sig.returnType = rt) && !meth.locks && decide (parseMethodDescriptor y.desc = some meth.sig)) = true) : (Jvm.Cond.code y bytes mx rt).before a s = true := by
  simp only [Bool.and_eq_true, beq_iff_eq, Bool.not_eq_true', decide_eq_true_eq] at h5
  obtain ⟨⟨⟨⟨⟨g1, g2⟩, g3⟩, g4⟩, g5⟩, g6⟩ := h5
  simp [Cond.before, Cond.holds, Cond.value, h1, h2, h3, h4, g1, g2, g3, g4, g5, g6]
def isCode : Jvm.Cond → Bool
  | .code _ _ _ _ => true
  | _ => false
theorem all_split {L : List Jvm.Cond} {P : Jvm.Cond → Bool} (h1 : L.all (fun c => isCode c || P c) = true) (h2 : ∀ c ∈ L.filter isCode, P c = true) : L.all P = true := by
  refine List.all_eq_true.mpr fun c hc => ?_
  have h := List.all_eq_true.mp h1 c hc
  rcases Bool.eq_false_or_eq_true (isCode c) with hi | hi
  · exact h2 c (List.mem_filter.mpr ⟨hc, hi⟩)
  · simpa [hi] using h
set_option maxRecDepth 65536 in
theorem w_c0 : (Jvm.Cond.code x code maxLocals ret).before args0 about1 = true := code_word (m := ⟨1, 1⟩) (meth := k1m1) (c := k1c1) (by decide +kernel) rfl rfl rfl (by decide +kernel)
set_option maxRecDepth 65536 in
theorem w_c1 : (Jvm.Cond.code ({ cls := "com/example/manyhands/manyhands/crowd/Totals", name := "<init>", desc := "()V" } : Jvm.MethodName) prog_54_method_1_code (1 : Nat) (Option.none : Option Jvm.ClassFile.FieldType)).before args0 about1 = true := code_word (m := ⟨2, 0⟩) (meth := k2m0) (c := k2c0) (by decide +kernel) rfl rfl rfl (by decide +kernel)
set_option maxRecDepth 65536 in
theorem w_c2 : (Jvm.Cond.code ({ cls := "java/lang/Object", name := "<init>", desc := "()V" } : Jvm.MethodName) object_method_1_code (1 : Nat) (Option.none : Option Jvm.ClassFile.FieldType)).before args0 about1 = true := code_word (m := ⟨0, 0⟩) (meth := k0m0) (c := k0c0) (by decide +kernel) rfl rfl rfl (by decide +kernel)
set_option maxRecDepth 65536 in
theorem w_c3 : (Jvm.Cond.code ({ cls := "com/example/manyhands/manyhands/crowd/Totals", name := "<init>", desc := "(JJJJ)V" } : Jvm.MethodName) prog_54_method_3_code (9 : Nat) (Option.none : Option Jvm.ClassFile.FieldType)).before args0 about1 = true := code_word (m := ⟨2, 1⟩) (meth := k2m1) (c := k2c1) (by decide +kernel) rfl rfl rfl (by decide +kernel)
set_option maxRecDepth 65536 in
theorem w_c4 : (Jvm.Cond.code ({ cls := "com/example/manyhands/manyhands/crowd/Totals", name := "countedSince", desc := "(Lcom/example/manyhands/manyhands/crowd/Totals;)Z" } : Jvm.MethodName) prog_54_method_10_code (2 : Nat) (Option.some Jvm.ClassFile.FieldType.boolean)).before args0 about1 = true := code_word (m := ⟨2, 8⟩) (meth := k2m8) (c := k2c8) (by decide +kernel) rfl rfl rfl (by decide +kernel)
set_option maxRecDepth 65536 in
theorem w_c5 : (Jvm.Cond.code ({ cls := "com/example/manyhands/manyhands/crowd/Totals", name := "add", desc := "(JJ)V" } : Jvm.MethodName) prog_54_method_6_code (5 : Nat) (Option.none : Option Jvm.ClassFile.FieldType)).before args0 about1 = true := code_word (m := ⟨2, 4⟩) (meth := k2m4) (c := k2c4) (by decide +kernel) rfl rfl rfl (by decide +kernel)
set_option maxRecDepth 65536 in
theorem w_c6 : (Jvm.Cond.code ({ cls := "com/example/manyhands/manyhands/crowd/Totals$Held", name := "<init>", desc := "(Lcom/example/manyhands/manyhands/crowd/Totals;)V" } : Jvm.MethodName) prog_55_method_1_code (2 : Nat) (Option.none : Option Jvm.ClassFile.FieldType)).before args0 about1 = true := code_word (m := ⟨4, 0⟩) (meth := k4m0) (c := k4c0) (by decide +kernel) rfl rfl rfl (by decide +kernel)
def codes1 : List Jvm.Cond := [Jvm.Cond.code x code maxLocals ret, Jvm.Cond.code ({ cls := "com/example/manyhands/manyhands/crowd/Totals", name := "<init>", desc := "()V" } : Jvm.MethodName) prog_54_method_1_code (1 : Nat) (Option.none : Option Jvm.ClassFile.FieldType), Jvm.Cond.code ({ cls := "java/lang/Object", name := "<init>", desc := "()V" } : Jvm.MethodName) object_method_1_code (1 : Nat) (Option.none : Option Jvm.ClassFile.FieldType), Jvm.Cond.code ({ cls := "com/example/manyhands/manyhands/crowd/Totals", name := "<init>", desc := "(JJJJ)V" } : Jvm.MethodName) prog_54_method_3_code (9 : Nat) (Option.none : Option Jvm.ClassFile.FieldType), Jvm.Cond.code ({ cls := "com/example/manyhands/manyhands/crowd/Totals", name := "countedSince", desc := "(Lcom/example/manyhands/manyhands/crowd/Totals;)Z" } : Jvm.MethodName) prog_54_method_10_code (2 : Nat) (Option.some Jvm.ClassFile.FieldType.boolean), Jvm.Cond.code ({ cls := "com/example/manyhands/manyhands/crowd/Totals", name := "add", desc := "(JJ)V" } : Jvm.MethodName) prog_54_method_6_code (5 : Nat) (Option.none : Option Jvm.ClassFile.FieldType), Jvm.Cond.code ({ cls := "com/example/manyhands/manyhands/crowd/Totals$Held", name := "<init>", desc := "(Lcom/example/manyhands/manyhands/crowd/Totals;)V" } : Jvm.MethodName) prog_55_method_1_code (2 : Nat) (Option.none : Option Jvm.ClassFile.FieldType)]
set_option maxRecDepth 65536 in
theorem codes_eq : words1.filter isCode = codes1 := rfl
theorem w_codes : ∀ c ∈ words1.filter isCode, c.before args0 about1 = true := by
  rw [codes_eq]
  intro c hc
  simp only [codes1, List.mem_cons, List.not_mem_nil, or_false] at hc
  rcases hc with rfl | rfl | rfl | rfl | rfl | rfl | rfl
  · exact w_c0
  · exact w_c1
  · exact w_c2
  · exact w_c3
  · exact w_c4
  · exact w_c5
  · exact w_c6
set_option maxRecDepth 65536 in
theorem w_t1 : (words1.take 24).all (fun c => isCode c || c.before args0 about1) = true := by decide +kernel
set_option maxRecDepth 65536 in
theorem w_t2 : ((words1.drop 24).take 24).all (fun c => isCode c || c.before args0 about1) = true := by decide +kernel
set_option maxRecDepth 65536 in
theorem w_t3 : (((words1.drop 24).drop 24).take 24).all (fun c => isCode c || c.before args0 about1) = true := by decide +kernel
set_option maxRecDepth 65536 in
theorem w_t4 : (((words1.drop 24).drop 24).drop 24).all (fun c => isCode c || c.before args0 about1) = true := by decide +kernel
theorem w_tables : (allAtoms (Jvm.Cond.code x code maxLocals ret :: tables_1)).before args0 about1 = true := by
  rw [allAtoms_all]
  show words1.all (fun c => c.before args0 about1) = true
  refine all_split ?_ w_codes
  rw [← List.take_append_drop 24 words1, List.all_append, w_t1, ← List.take_append_drop 24 (words1.drop 24), List.all_append, w_t2, ← List.take_append_drop 24 ((words1.drop 24).drop 24), List.all_append, w_t3, w_t4]
  rfl
set_option maxRecDepth 65536 in
theorem w_case : (Jvm.Cond.and given_1 narrow_1).before args0 about1 = true := by decide +kernel
theorem w_applies : (headSpec (Jvm.Cond.code x code maxLocals ret :: tables_1) room_1).applies x e0.platform about1 = true :=
  (Spec.applies_iff w_frames).mpr ⟨w_running, w_runnable, w_alone, w_named, w_hears, w_ripe, w_room, w_tables⟩
theorem atStart : AtStart classFile x code maxLocals ret World_1 tables_1 room_1 Calls_1 rest_1 Pre_1 launch0 p0 e0 about1 theMethod args0 below0 :=
  ⟨lists_1, trivial, launch0.admits_env _ _ _, launch0.least_env, fairChoices_fair.cas, fairChoices_fair.clock, w_frames, w_args, w_heap, w_applies, trivial, trivial, w_case⟩
end start1
theorem witness_1 : WitnessClaimed_1 := ⟨start1.p0, start1.e0, start1.about1, start1.theMethod, start1.args0, start1.below0, start1.atStart⟩
end Jvm.Pilot.@@N@@
