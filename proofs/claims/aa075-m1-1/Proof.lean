import JvmDerived
import JvmDerived.Pilot.@@N@@Statement
import JvmDerived.Pilot.@@N@@Code
set_option linter.unusedVariables false
set_option linter.unusedSimpArgs false
namespace Jvm.Pilot.@@N@@
open Jvm Jvm.ClassFile Sem Op Lib Jvm.Free Jvm.Stand Jvm.LawKit Jvm.RoadKit Bundle Jvm.Pilot.@@N@@.Jvm.D
section Own
variable {p : Program} {l : Launch} {e : Env} {R : Room} {s : State} {m : MethodId} {args : Array Value} {below : List Frame} {meth : Method} {c : Code} {T : State} {locs : List Loc} {cells slots : Nat} {G : State → Outcome → Prop}
def Go (p : Program) (e : Env) (below : List Frame) (G : State → Outcome → Prop) (st : State) : Prop := ∃ s₂ o, Steps p.tables e below st s₂ ∧ s₂.status = .running ∧ Ended s₂ below o ∧ G s₂ o
theorem Go.st {A B : State} (k : ∀ t, Steps p.tables e below B t → Steps p.tables e below A t) (h : Go p e below G B) : Go p e below G A := by
  obtain ⟨s₂, o, h1, h2⟩ := h
  exact ⟨s₂, o, k _ h1, h2⟩
theorem Go.tr {A B : State} (k : Steps p.tables e below A B) (h : Go p e below G B) : Go p e below G A := by
  obtain ⟨s₂, o, h1, h2⟩ := h
  exact ⟨s₂, o, k.trans h1, h2⟩
theorem Go.retW (X : Stand p l e R s m args below meth c T locs cells slots) (hx : p.tables.exec = Jvm.exec) {t : FieldType} (hret : meth.sig.returnType = some t) {w : Value} {i : Instr} (hn : narrow t w = w)
    (hi : (i = .ireturn ∧ (t = .int ∨ t = .boolean ∨ t = .byte ∨ t = .char ∨ t = .short) ∧ ∃ z, w = .int z) ∨ (i = .lreturn ∧ t = .long ∧ ∃ z, w = .long z) ∨ (i = .dreturn ∧ t = .double ∧ ∃ z, w = .double z) ∨ (i = .freturn ∧ t = .float ∧ ∃ z, w = .float z) ∨ (i = .areturn ∧ t.isReference = true ∧ w.isRef = true))
    (hlk : meth.locks = false) {pc : Nat} {Ls : Array Slot} {rest : List Value} (hd : decode c.code pc = .ok (i, 1)) {C S : Nat} {Q : Option Value → Heap → List Loc → Prop} (hC : cells ≤ C) (hS : slots ≤ S) (q : Q (some w) T.heap locs) :
    Go p e below (fun s₂ o => ∃ v L, o = .returned v ∧ Q v s₂.heap L ∧ FrameEnd s o s₂ L C S) (T.setTop (mkF m pc Ls (w :: rest))) := by
  obtain ⟨fs, hr, hrun, hended, hW, hsame⟩ := X.leave (v := some w) (fun h => by rw [hret] at h; cases h) hlk
  exact ⟨_, _, retOut X hx hret hn hi hd hr, hrun, hended, _, _, rfl, q, ⟨_, rfl⟩, hW, hsame.mono hC hS⟩
theorem Go.retN (X : Stand p l e R s m args below meth c T locs cells slots) (hx : p.tables.exec = Jvm.exec) {t : FieldType} (hret : meth.sig.returnType = some t) (ht : t = .boolean ∨ t = .byte ∨ t = .char ∨ t = .short) (hlk : meth.locks = false) {pc : Nat} {Ls : Array Slot} {z : Int32} {rest : List Value} (hd : decode c.code pc = .ok (.ireturn, 1))
    {C S : Nat} {Q : Option Value → Heap → List Loc → Prop} (hC : cells ≤ C) (hS : slots ≤ S) (q : Q (some (.int (nar t z))) T.heap locs) :
    Go p e below (fun s₂ o => ∃ v L, o = .returned v ∧ Q v s₂.heap L ∧ FrameEnd s o s₂ L C S) (T.setTop (mkF m pc Ls (.int z :: rest))) := by
  obtain ⟨fs, hr, hrun, hended, hW, hsame⟩ := X.leave (v := some (.int (nar t z))) (fun h => by rw [hret] at h; cases h) hlk
  exact ⟨_, _, Jvm.RoadKit.retN X hx hret ht hd hr, hrun, hended, _, _, rfl, q, ⟨_, rfl⟩, hW, hsame.mono hC hS⟩
theorem Go.retI (X : Stand p l e R s m args below meth c T locs cells slots) (hx : p.tables.exec = Jvm.exec) (hret : meth.sig.returnType = some .int) (hlk : meth.locks = false) {pc : Nat} {Ls : Array Slot} {z : Int32} {rest : List Value} (hd : decode c.code pc = .ok (.ireturn, 1))
    {C S : Nat} {Q : Option Value → Heap → List Loc → Prop} (hC : cells ≤ C) (hS : slots ≤ S) (q : Q (some (.int z)) T.heap locs) :
    Go p e below (fun s₂ o => ∃ v L, o = .returned v ∧ Q v s₂.heap L ∧ FrameEnd s o s₂ L C S) (T.setTop (mkF m pc Ls (.int z :: rest))) :=
  Go.retW X hx hret rfl (Or.inl ⟨rfl, Or.inl rfl, z, rfl⟩) hlk hd hC hS q
theorem Go.retL (X : Stand p l e R s m args below meth c T locs cells slots) (hx : p.tables.exec = Jvm.exec) (hret : meth.sig.returnType = some .long) (hlk : meth.locks = false) {pc : Nat} {Ls : Array Slot} {z : Int64} {rest : List Value} (hd : decode c.code pc = .ok (.lreturn, 1))
    {C S : Nat} {Q : Option Value → Heap → List Loc → Prop} (hC : cells ≤ C) (hS : slots ≤ S) (q : Q (some (.long z)) T.heap locs) :
    Go p e below (fun s₂ o => ∃ v L, o = .returned v ∧ Q v s₂.heap L ∧ FrameEnd s o s₂ L C S) (T.setTop (mkF m pc Ls (.long z :: rest))) :=
  Go.retW X hx hret rfl (Or.inr (Or.inl ⟨rfl, rfl, z, rfl⟩)) hlk hd hC hS q
theorem Go.retA (X : Stand p l e R s m args below meth c T locs cells slots) (hx : p.tables.exec = Jvm.exec) {t : FieldType} (hret : meth.sig.returnType = some t) {w : Value} (ht : t.isReference = true) (hw : w.isRef = true) (hlk : meth.locks = false) {pc : Nat} {Ls : Array Slot} {rest : List Value} (hd : decode c.code pc = .ok (.areturn, 1))
    {C S : Nat} {Q : Option Value → Heap → List Loc → Prop} (hC : cells ≤ C) (hS : slots ≤ S) (q : Q (some w) T.heap locs) :
    Go p e below (fun s₂ o => ∃ v L, o = .returned v ∧ Q v s₂.heap L ∧ FrameEnd s o s₂ L C S) (T.setTop (mkF m pc Ls (w :: rest))) :=
  Go.retW X hx hret (by rcases ref_cases hw with rfl | ⟨a, rfl⟩ <;> cases t <;> first | rfl | cases ht) (Or.inr (Or.inr (Or.inr (Or.inr ⟨rfl, ht, hw⟩)))) hlk hd hC hS q
theorem Go.retV (X : Stand p l e R s m args below meth c T locs cells slots) (hx : p.tables.exec = Jvm.exec) (hret : meth.sig.returnType = none) (hlk : meth.locks = false) {pc : Nat} {Ls : Array Slot} (hd : decode c.code pc = .ok (.return_, 1))
    {C S : Nat} {Q : Option Value → Heap → List Loc → Prop} (hC : cells ≤ C) (hS : slots ≤ S) (q : Q none T.heap locs) :
    Go p e below (fun s₂ o => ∃ v L, o = .returned v ∧ Q v s₂.heap L ∧ FrameEnd s o s₂ L C S) (T.setTop (mkF m pc Ls [])) := by
  obtain ⟨fs, hr, hrun, hended, hW, hsame⟩ := X.leave (v := none) (fun _ => rfl) hlk
  exact ⟨_, _, X.returnOut hx hret hd hr, hrun, hended, _, _, rfl, q, ⟨_, rfl⟩, hW, hsame.mono hC hS⟩
end Own
theorem own_self {Z s : State} {a0 args : Array Value} {y : MethodName} {n : Nat} (hZ : Z.Warmed39 s.vm) (wi : (Cond.instantiable y.cls n).before a0 Z = true) (wp : (Cond.privateMethod y).before a0 Z = true) (wm : (Cond.instanceMethod y).before a0 Z = true) (hy : y.cls ≠ "java/lang/invoke/MethodHandle" ∧ y.cls ≠ "java/lang/invoke/VarHandle") : (Cond.selects y.cls y y).before args s = true := by
  have wi' : (Cond.instantiable y.cls n).before args s = true := mv hZ wi
  obtain ⟨c, k, i1, i2, -, i4, -⟩ := Cond.instantiable_spec wi'
  simp only [Bool.or_eq_false_iff] at i4
  exact selects_self_of_private i1 i2 i4.1 (Cond.privateMethod_at (mvP hZ wp (args := #[]))) (mv hZ wm) hy
section OwnAV
variable {Z : State} {h h' : Heap} {a b : Addr} {ty : FieldType} {n : Int32} {ws : List Addr} {sl : Nat} {v d : Value} {k : ClassId} {vs : List Value}
def AV (Z : State) (h : Heap) (a : Addr) (ty : FieldType) (n : Int32) : Prop := ∃ c : Cell, Arr Z h a c ty ∧ c.slots.size = n.toNatClampNeg ∧ ¬ n < 0 ∧ ∀ (i : Nat) (v : Value), c.slots[i]? = some v → fits ty v = true
theorem AV.lt (F : AV Z h a ty n) : a < h.size := by obtain ⟨c, A, -⟩ := F; exact A.lt
theorem AV.ext (F : AV Z h a ty n) (E : Ext h h') : AV Z h' a ty n := by obtain ⟨c, A, r⟩ := F; exact ⟨c, A.ext E, r⟩
theorem AV.other (F : AV Z h a ty n) (W : Wr h h' b sl v) (q : a ≠ b) : AV Z h' a ty n := by obtain ⟨c, A, r⟩ := F; exact ⟨c, A.other W q, r⟩
theorem AV.keep (F : AV Z h a ty n) (K : Keep h h' ws) (q : a ∉ ws) : AV Z h' a ty n := by obtain ⟨c, A, r⟩ := F; exact ⟨c, ⟨K.2.1 a c A.1 q, A.2⟩, r⟩
theorem AV.of (F : Arv Z h a k ty n vs d) : AV Z h a ty n := by
  obtain ⟨c, A, -, S, q, H, G⟩ := F
  refine ⟨c, A, S, q, fun i w hw => ?_⟩
  have hi := (Array.getElem?_eq_some_iff.mp hw).1
  have := H i hi
  rw [hw] at this
  rw [Option.some.inj this]; exact G i hi
theorem AV.new (A : Arr Z h a (newA k ty n) ty) (q : ¬ n < 0) (fd : fits ty (defaultValue ty) = true) : AV Z h a ty n := by
  refine ⟨_, A, sz_new _ _ _, q, fun i w hw => ?_⟩
  simp only [newA, Array.getElem?_replicate] at hw
  split at hw
  · cases hw; exact fd
  · cases hw
theorem AV.set {c : Cell} (A : Arr Z h a c ty) (S : c.slots.size = n.toNatClampNeg) (q : ¬ n < 0) (G : ∀ (i : Nat) (v : Value), c.slots[i]? = some v → fits ty v = true) (hv : fits ty v = true) (W : Wr h h' a sl v) : AV Z h' a ty n := by
  refine ⟨_, A.same W, by rw [sz_set]; exact S, q, fun i w hw => ?_⟩
  by_cases e : sl = i
  · subst e
    have hi := (Array.getElem?_eq_some_iff.mp hw).1
    simp only [Cell.setSlot, Array.size_setIfInBounds] at hi
    simp [Cell.setSlot, hi] at hw
    subst hw; exact hv
  · simp only [Cell.setSlot] at hw
    rw [Array.getElem?_setIfInBounds_ne e] at hw
    exact G i w hw
theorem AV.arv (F : AV Z h a ty n) (d : Value) : ∃ k vs, Arv Z h a k ty n vs d ∧ vs.length = n.toNatClampNeg := by
  obtain ⟨c, A, S, q, G⟩ := F
  refine ⟨c.cls, c.slots.toList, ⟨c, A, rfl, S, q, fun i hi => ?_, fun i hi => ?_⟩, by simpa using S⟩
  · simp [List.getD_eq_getElem?_getD, hi]
  · refine G i _ ?_
    simp [List.getD_eq_getElem?_getD, hi]
end OwnAV
def own_inv (a : Int64) : Int64 :=
  let x1 := a * (2 - a * a)
  let x2 := x1 * (2 - a * x1)
  let x3 := x2 * (2 - a * x2)
  let x4 := x3 * (2 - a * x3)
  x4 * (2 - a * x4)
def own_sr (x : Int64) (k : Int32) : Int64 := x >>> (k &&& 0x3f).toInt64
def own_sl (x : Int64) (k : Int32) : Int64 := x <<< (k &&& 0x3f).toInt64
def own_su (x : Int64) (k : Int32) : Int64 := (x.toUInt64 >>> (k &&& 0x3f).toInt64.toUInt64).toInt64
def own_m1 (k : Int64) : Int64 := (k ^^^ (-1)) + own_sl k 21
def own_m2 (h : Int64) : Int64 := h ^^^ own_sr h 24
def own_m3 (h : Int64) : Int64 := (h + own_sl h 3) + own_sl h 8
def own_m4 (h : Int64) : Int64 := h ^^^ own_sr h 14
def own_m5 (h : Int64) : Int64 := (h + own_sl h 2) + own_sl h 4
def own_m6 (h : Int64) : Int64 := h ^^^ own_sr h 28
def own_m7 (h : Int64) : Int64 := h + own_sl h 31
def own_mix (k : Int64) : Int64 := own_m7 (own_m6 (own_m5 (own_m4 (own_m3 (own_m2 (own_m1 k))))))
def own_q (h : Int64) : Int64 := (h ^^^ own_su h 24) ^^^ own_su h 48
def own_c (h : Int64) : Int64 := (((h ^^^ own_su h 14) ^^^ own_su h 28) ^^^ own_su h 42) ^^^ own_su h 56
def own_p (h : Int64) : Int64 := (h ^^^ own_su h 28) ^^^ own_su h 56
def own_P3 (key h3 : Int64) : Prop := ¬ (h3 * own_inv 265 < 0) ∧ ((own_q (h3 * own_inv 265) + 1) * own_inv 2097151 = key ∨ ((own_q (h3 * own_inv 265) ^^^ (-1)) + 1) * own_inv 2097151 = key)
def own_P5 (key h5 : Int64) : Prop := ¬ (h5 * own_inv 21 < 0) ∧ (own_P3 key (own_c (h5 * own_inv 21)) ∨ own_P3 key (own_c (h5 * own_inv 21) ^^^ (-1)))
def own_B (P : Prop) (z : Int32) : Prop := (z = 1 ∧ P) ∨ (z = 0 ∧ ¬ P)
theorem d1_0 : decode prog_47_method_5_code 0 = .ok (.lload_n 0, 1) := by decide +kernel
theorem d1_1 : decode prog_47_method_5_code 1 = .ok (.ldc2_w 85, 3) := by decide +kernel
theorem d1_4 : decode prog_47_method_5_code 4 = .ok (.lxor, 1) := by decide +kernel
theorem d1_5 : decode prog_47_method_5_code 5 = .ok (.lload_n 0, 1) := by decide +kernel
theorem d1_6 : decode prog_47_method_5_code 6 = .ok (.bipush 21, 2) := by decide +kernel
theorem d1_8 : decode prog_47_method_5_code 8 = .ok (.lshl, 1) := by decide +kernel
theorem d1_9 : decode prog_47_method_5_code 9 = .ok (.ladd, 1) := by decide +kernel
theorem d1_10 : decode prog_47_method_5_code 10 = .ok (.lstore_n 2, 1) := by decide +kernel
theorem d1_11 : decode prog_47_method_5_code 11 = .ok (.lload_n 2, 1) := by decide +kernel
theorem d1_12 : decode prog_47_method_5_code 12 = .ok (.lload_n 2, 1) := by decide +kernel
theorem d1_13 : decode prog_47_method_5_code 13 = .ok (.bipush 24, 2) := by decide +kernel
theorem d1_15 : decode prog_47_method_5_code 15 = .ok (.lshr, 1) := by decide +kernel
theorem d1_16 : decode prog_47_method_5_code 16 = .ok (.lxor, 1) := by decide +kernel
theorem d1_17 : decode prog_47_method_5_code 17 = .ok (.lstore_n 2, 1) := by decide +kernel
theorem d1_18 : decode prog_47_method_5_code 18 = .ok (.lload_n 2, 1) := by decide +kernel
theorem d1_19 : decode prog_47_method_5_code 19 = .ok (.lload_n 2, 1) := by decide +kernel
theorem d1_20 : decode prog_47_method_5_code 20 = .ok (.iconst 3, 1) := by decide +kernel
theorem d1_21 : decode prog_47_method_5_code 21 = .ok (.lshl, 1) := by decide +kernel
theorem d1_22 : decode prog_47_method_5_code 22 = .ok (.ladd, 1) := by decide +kernel
theorem d1_23 : decode prog_47_method_5_code 23 = .ok (.lload_n 2, 1) := by decide +kernel
theorem d1_24 : decode prog_47_method_5_code 24 = .ok (.bipush 8, 2) := by decide +kernel
theorem d1_26 : decode prog_47_method_5_code 26 = .ok (.lshl, 1) := by decide +kernel
theorem d1_27 : decode prog_47_method_5_code 27 = .ok (.ladd, 1) := by decide +kernel
theorem d1_28 : decode prog_47_method_5_code 28 = .ok (.lstore_n 2, 1) := by decide +kernel
theorem d1_29 : decode prog_47_method_5_code 29 = .ok (.lload_n 2, 1) := by decide +kernel
theorem d1_30 : decode prog_47_method_5_code 30 = .ok (.lload_n 2, 1) := by decide +kernel
theorem d1_31 : decode prog_47_method_5_code 31 = .ok (.bipush 14, 2) := by decide +kernel
theorem d1_33 : decode prog_47_method_5_code 33 = .ok (.lshr, 1) := by decide +kernel
theorem d1_34 : decode prog_47_method_5_code 34 = .ok (.lxor, 1) := by decide +kernel
theorem d1_35 : decode prog_47_method_5_code 35 = .ok (.lstore_n 2, 1) := by decide +kernel
theorem d1_36 : decode prog_47_method_5_code 36 = .ok (.lload_n 2, 1) := by decide +kernel
theorem d1_37 : decode prog_47_method_5_code 37 = .ok (.lload_n 2, 1) := by decide +kernel
theorem d1_38 : decode prog_47_method_5_code 38 = .ok (.iconst 2, 1) := by decide +kernel
theorem d1_39 : decode prog_47_method_5_code 39 = .ok (.lshl, 1) := by decide +kernel
theorem d1_40 : decode prog_47_method_5_code 40 = .ok (.ladd, 1) := by decide +kernel
theorem d1_41 : decode prog_47_method_5_code 41 = .ok (.lload_n 2, 1) := by decide +kernel
theorem d1_42 : decode prog_47_method_5_code 42 = .ok (.iconst 4, 1) := by decide +kernel
theorem d1_43 : decode prog_47_method_5_code 43 = .ok (.lshl, 1) := by decide +kernel
theorem d1_44 : decode prog_47_method_5_code 44 = .ok (.ladd, 1) := by decide +kernel
theorem d1_45 : decode prog_47_method_5_code 45 = .ok (.lstore_n 2, 1) := by decide +kernel
theorem d1_46 : decode prog_47_method_5_code 46 = .ok (.lload_n 2, 1) := by decide +kernel
theorem d1_47 : decode prog_47_method_5_code 47 = .ok (.lload_n 2, 1) := by decide +kernel
theorem d1_48 : decode prog_47_method_5_code 48 = .ok (.bipush 28, 2) := by decide +kernel
theorem d1_50 : decode prog_47_method_5_code 50 = .ok (.lshr, 1) := by decide +kernel
theorem d1_51 : decode prog_47_method_5_code 51 = .ok (.lxor, 1) := by decide +kernel
theorem d1_52 : decode prog_47_method_5_code 52 = .ok (.lstore_n 2, 1) := by decide +kernel
theorem d1_53 : decode prog_47_method_5_code 53 = .ok (.lload_n 2, 1) := by decide +kernel
theorem d1_54 : decode prog_47_method_5_code 54 = .ok (.lload_n 2, 1) := by decide +kernel
theorem d1_55 : decode prog_47_method_5_code 55 = .ok (.bipush 31, 2) := by decide +kernel
theorem d1_57 : decode prog_47_method_5_code 57 = .ok (.lshl, 1) := by decide +kernel
theorem d1_58 : decode prog_47_method_5_code 58 = .ok (.ladd, 1) := by decide +kernel
theorem d1_59 : decode prog_47_method_5_code 59 = .ok (.lreturn, 1) := by decide +kernel
theorem own_pn0 : plainName "com/example/rowsieve/rowsieve/kind/bloom/ValueHash" = true := by first | (simp [plainName, overriddenIn]; done) | decide +kernel
def Q_rm1 (Z : State) (k : Int64) (h0 : Heap) (n0 : Nat) (v : Option Value) (h : Heap) (L : List Loc) : Prop := v = some (.long (own_mix k)) ∧ Fr n0 L ∧ h = h0
theorem ef_rm1 (m : MethodId) (k : Int64) : entryFrame m #[(.long k)] 4 = mkF m 0 #[.val (.long k), .second, .unset, .unset] [] := by first | (simp [entryFrame, mkF, argsToLocals, Value.category]; done) | rfl
set_option maxRecDepth 65536 in
set_option maxHeartbeats 40000000 in
theorem rm1 (l : Launch) (Z : State) (a0 : Array Value) (hw : ∀ d ∈ tables_1, d.before a0 Z = true) (ws : List Jvm.Cond) (k : Int64) (h0 : Heap) (n0 : Nat) (Z0 : n0 ≤ h0.size) :
    MetFree l (⟨"com/example/rowsieve/rowsieve/kind/bloom/ValueHash", "mix", "(J)J"⟩ : MethodName) (head1 (Jvm.Cond.code (⟨"com/example/rowsieve/rowsieve/kind/bloom/ValueHash", "mix", "(J)J"⟩ : MethodName) prog_47_method_5_code 4 (some .long) :: ws) ({ frames := 0, cells := 0, slots := 0, locals := 0 } : Room)) (fun a U => a = #[(.long k)] ∧ Z.Warmed39 U.vm ∧ U.heap = h0) (fun _ _ _ _ _ => True) (fun _ U o U' => ∃ v L, o = .returned v ∧ (Q_rm1 Z k h0 n0) v U'.heap L ∧ FrameEnd U o U' L ({ frames := 0, cells := 0, slots := 0, locals := 0 } : Room).cells ({ frames := 0, cells := 0, slots := 0, locals := 0 } : Room).slots) := by
  refine MetFree.of_bodySF (plainFor_of_name own_pn0) hisR ?_
  intro p e s m args below meth c s₁ Bd hml0 hP hK
  obtain ⟨rfl, hZ, hh⟩ := hP
  have hx := Bd.exec
  have hby := Bd.bytes
  have hml : c.maxLocals = 4 := hml0
  have hown : s.vm.findClass "com/example/rowsieve/rowsieve/kind/bloom/ValueHash" = some m.cls := findClass_of_methodNamed Bd.named
  have hnm := (name_of_methodNamed Bd.named Bd.method).1
  have X0 : Stand p l e ({ frames := 0, cells := 0, slots := 0, locals := 0 } : Room) s m #[(.long k)] below meth c s₁ [] 0 0 := Stand.of_body Bd
  have e0 : s₁.heap = h0 := by rw [← hh, Bd.state]; rfl
  have N0 := Fr.nil n0
  refine Go.st (G := fun s₂ o => ∃ v L, o = .returned v ∧ (Q_rm1 Z k h0 n0) v s₂.heap L ∧ FrameEnd s o s₂ L ({ frames := 0, cells := 0, slots := 0, locals := 0 } : Room).cells ({ frames := 0, cells := 0, slots := 0, locals := 0 } : Room).slots) (fun t kt => castTop (ef_rm1 m k) kt) ?_
  show Go p e below _ (s₁.setTop (mkF m 0 #[.val (.long k), .second, .unset, .unset] []))
  refine Go.st (fun _ kt => XS.lloadN X0.here hx rfl (hb hby d1_0) rfl kt) ?_
  show Go p e below _ (s₁.setTop (mkF m 1 #[.val (.long k), .second, .unset, .unset] [(.long k)]))
  refine Go.st (fun _ kt => X0.ldc2Long hx hown (mvT hZ (hw _ (List.mem_of_getElem? (i := 4) rfl))) (g := (mkF m 1 #[.val (.long k), .second, .unset, .unset] [(.long k)])) rfl (hb hby d1_1) _ kt) ?_
  show Go p e below _ (s₁.setTop (mkF m 4 #[.val (.long k), .second, .unset, .unset] [(.long (-1 : Int64)), (.long k)]))
  refine Go.st (fun _ kt => XS.lxor X0.here hx rfl (hb hby d1_4) rfl kt) ?_
  show Go p e below _ (s₁.setTop (mkF m 5 #[.val (.long k), .second, .unset, .unset] [(.long (k ^^^ (-1 : Int64)))]))
  refine Go.st (fun _ kt => XS.lloadN X0.here hx rfl (hb hby d1_5) rfl kt) ?_
  show Go p e below _ (s₁.setTop (mkF m 6 #[.val (.long k), .second, .unset, .unset] [(.long k), (.long (k ^^^ (-1 : Int64)))]))
  refine Go.st (fun _ kt => XS.bipush X0.here hx rfl (hb hby d1_6) kt) ?_
  show Go p e below _ (s₁.setTop (mkF m 8 #[.val (.long k), .second, .unset, .unset] [(.int (21 : Int32)), (.long k), (.long (k ^^^ (-1 : Int64)))]))
  refine Go.st (fun _ kt => XS.lshl X0.here hx rfl (hb hby d1_8) rfl kt) ?_
  show Go p e below _ (s₁.setTop (mkF m 9 #[.val (.long k), .second, .unset, .unset] [(.long (k <<< ((21 : Int32) &&& 0x3f).toInt64)), (.long (k ^^^ (-1 : Int64)))]))
  refine Go.st (fun _ kt => XS.ladd X0.here hx rfl (hb hby d1_9) rfl kt) ?_
  show Go p e below _ (s₁.setTop (mkF m 10 #[.val (.long k), .second, .unset, .unset] [(.long ((k ^^^ (-1 : Int64)) + (k <<< ((21 : Int32) &&& 0x3f).toInt64)))]))
  generalize hu1 : (((k ^^^ (-1 : Int64)) + (k <<< ((21 : Int32) &&& 0x3f).toInt64)) : Int64) = u1
  show Go p e below _ (s₁.setTop (mkF m 10 #[.val (.long k), .second, .unset, .unset] [(.long u1)]))
  refine Go.st (fun _ kt => XS.lstoreN X0.here hx rfl (hb hby d1_10) rfl (l' := #[.val (.long k), .second, .val (.long u1), .second]) rfl kt) ?_
  show Go p e below _ (s₁.setTop (mkF m 11 #[.val (.long k), .second, .val (.long u1), .second] []))
  refine Go.st (fun _ kt => XS.lloadN X0.here hx rfl (hb hby d1_11) rfl kt) ?_
  show Go p e below _ (s₁.setTop (mkF m 12 #[.val (.long k), .second, .val (.long u1), .second] [(.long u1)]))
  refine Go.st (fun _ kt => XS.lloadN X0.here hx rfl (hb hby d1_12) rfl kt) ?_
  show Go p e below _ (s₁.setTop (mkF m 13 #[.val (.long k), .second, .val (.long u1), .second] [(.long u1), (.long u1)]))
  refine Go.st (fun _ kt => XS.bipush X0.here hx rfl (hb hby d1_13) kt) ?_
  show Go p e below _ (s₁.setTop (mkF m 15 #[.val (.long k), .second, .val (.long u1), .second] [(.int (24 : Int32)), (.long u1), (.long u1)]))
  refine Go.st (fun _ kt => XS.lshr X0.here hx rfl (hb hby d1_15) rfl kt) ?_
  show Go p e below _ (s₁.setTop (mkF m 16 #[.val (.long k), .second, .val (.long u1), .second] [(.long (u1 >>> ((24 : Int32) &&& 0x3f).toInt64)), (.long u1)]))
  refine Go.st (fun _ kt => XS.lxor X0.here hx rfl (hb hby d1_16) rfl kt) ?_
  show Go p e below _ (s₁.setTop (mkF m 17 #[.val (.long k), .second, .val (.long u1), .second] [(.long (u1 ^^^ (u1 >>> ((24 : Int32) &&& 0x3f).toInt64)))]))
  generalize hu2 : ((u1 ^^^ (u1 >>> ((24 : Int32) &&& 0x3f).toInt64)) : Int64) = u2
  show Go p e below _ (s₁.setTop (mkF m 17 #[.val (.long k), .second, .val (.long u1), .second] [(.long u2)]))
  refine Go.st (fun _ kt => XS.lstoreN X0.here hx rfl (hb hby d1_17) rfl (l' := #[.val (.long k), .second, .val (.long u2), .second]) rfl kt) ?_
  show Go p e below _ (s₁.setTop (mkF m 18 #[.val (.long k), .second, .val (.long u2), .second] []))
  refine Go.st (fun _ kt => XS.lloadN X0.here hx rfl (hb hby d1_18) rfl kt) ?_
  show Go p e below _ (s₁.setTop (mkF m 19 #[.val (.long k), .second, .val (.long u2), .second] [(.long u2)]))
  refine Go.st (fun _ kt => XS.lloadN X0.here hx rfl (hb hby d1_19) rfl kt) ?_
  show Go p e below _ (s₁.setTop (mkF m 20 #[.val (.long k), .second, .val (.long u2), .second] [(.long u2), (.long u2)]))
  refine Go.st (fun _ kt => XS.iconst X0.here hx rfl (hb hby d1_20) kt) ?_
  show Go p e below _ (s₁.setTop (mkF m 21 #[.val (.long k), .second, .val (.long u2), .second] [(.int (3 : Int32)), (.long u2), (.long u2)]))
  refine Go.st (fun _ kt => XS.lshl X0.here hx rfl (hb hby d1_21) rfl kt) ?_
  show Go p e below _ (s₁.setTop (mkF m 22 #[.val (.long k), .second, .val (.long u2), .second] [(.long (u2 <<< ((3 : Int32) &&& 0x3f).toInt64)), (.long u2)]))
  refine Go.st (fun _ kt => XS.ladd X0.here hx rfl (hb hby d1_22) rfl kt) ?_
  show Go p e below _ (s₁.setTop (mkF m 23 #[.val (.long k), .second, .val (.long u2), .second] [(.long (u2 + (u2 <<< ((3 : Int32) &&& 0x3f).toInt64)))]))
  refine Go.st (fun _ kt => XS.lloadN X0.here hx rfl (hb hby d1_23) rfl kt) ?_
  show Go p e below _ (s₁.setTop (mkF m 24 #[.val (.long k), .second, .val (.long u2), .second] [(.long u2), (.long (u2 + (u2 <<< ((3 : Int32) &&& 0x3f).toInt64)))]))
  refine Go.st (fun _ kt => XS.bipush X0.here hx rfl (hb hby d1_24) kt) ?_
  show Go p e below _ (s₁.setTop (mkF m 26 #[.val (.long k), .second, .val (.long u2), .second] [(.int (8 : Int32)), (.long u2), (.long (u2 + (u2 <<< ((3 : Int32) &&& 0x3f).toInt64)))]))
  refine Go.st (fun _ kt => XS.lshl X0.here hx rfl (hb hby d1_26) rfl kt) ?_
  show Go p e below _ (s₁.setTop (mkF m 27 #[.val (.long k), .second, .val (.long u2), .second] [(.long (u2 <<< ((8 : Int32) &&& 0x3f).toInt64)), (.long (u2 + (u2 <<< ((3 : Int32) &&& 0x3f).toInt64)))]))
  refine Go.st (fun _ kt => XS.ladd X0.here hx rfl (hb hby d1_27) rfl kt) ?_
  show Go p e below _ (s₁.setTop (mkF m 28 #[.val (.long k), .second, .val (.long u2), .second] [(.long ((u2 + (u2 <<< ((3 : Int32) &&& 0x3f).toInt64)) + (u2 <<< ((8 : Int32) &&& 0x3f).toInt64)))]))
  generalize hu3 : (((u2 + (u2 <<< ((3 : Int32) &&& 0x3f).toInt64)) + (u2 <<< ((8 : Int32) &&& 0x3f).toInt64)) : Int64) = u3
  show Go p e below _ (s₁.setTop (mkF m 28 #[.val (.long k), .second, .val (.long u2), .second] [(.long u3)]))
  refine Go.st (fun _ kt => XS.lstoreN X0.here hx rfl (hb hby d1_28) rfl (l' := #[.val (.long k), .second, .val (.long u3), .second]) rfl kt) ?_
  show Go p e below _ (s₁.setTop (mkF m 29 #[.val (.long k), .second, .val (.long u3), .second] []))
  refine Go.st (fun _ kt => XS.lloadN X0.here hx rfl (hb hby d1_29) rfl kt) ?_
  show Go p e below _ (s₁.setTop (mkF m 30 #[.val (.long k), .second, .val (.long u3), .second] [(.long u3)]))
  refine Go.st (fun _ kt => XS.lloadN X0.here hx rfl (hb hby d1_30) rfl kt) ?_
  show Go p e below _ (s₁.setTop (mkF m 31 #[.val (.long k), .second, .val (.long u3), .second] [(.long u3), (.long u3)]))
  refine Go.st (fun _ kt => XS.bipush X0.here hx rfl (hb hby d1_31) kt) ?_
  show Go p e below _ (s₁.setTop (mkF m 33 #[.val (.long k), .second, .val (.long u3), .second] [(.int (14 : Int32)), (.long u3), (.long u3)]))
  refine Go.st (fun _ kt => XS.lshr X0.here hx rfl (hb hby d1_33) rfl kt) ?_
  show Go p e below _ (s₁.setTop (mkF m 34 #[.val (.long k), .second, .val (.long u3), .second] [(.long (u3 >>> ((14 : Int32) &&& 0x3f).toInt64)), (.long u3)]))
  refine Go.st (fun _ kt => XS.lxor X0.here hx rfl (hb hby d1_34) rfl kt) ?_
  show Go p e below _ (s₁.setTop (mkF m 35 #[.val (.long k), .second, .val (.long u3), .second] [(.long (u3 ^^^ (u3 >>> ((14 : Int32) &&& 0x3f).toInt64)))]))
  generalize hu4 : ((u3 ^^^ (u3 >>> ((14 : Int32) &&& 0x3f).toInt64)) : Int64) = u4
  show Go p e below _ (s₁.setTop (mkF m 35 #[.val (.long k), .second, .val (.long u3), .second] [(.long u4)]))
  refine Go.st (fun _ kt => XS.lstoreN X0.here hx rfl (hb hby d1_35) rfl (l' := #[.val (.long k), .second, .val (.long u4), .second]) rfl kt) ?_
  show Go p e below _ (s₁.setTop (mkF m 36 #[.val (.long k), .second, .val (.long u4), .second] []))
  refine Go.st (fun _ kt => XS.lloadN X0.here hx rfl (hb hby d1_36) rfl kt) ?_
  show Go p e below _ (s₁.setTop (mkF m 37 #[.val (.long k), .second, .val (.long u4), .second] [(.long u4)]))
  refine Go.st (fun _ kt => XS.lloadN X0.here hx rfl (hb hby d1_37) rfl kt) ?_
  show Go p e below _ (s₁.setTop (mkF m 38 #[.val (.long k), .second, .val (.long u4), .second] [(.long u4), (.long u4)]))
  refine Go.st (fun _ kt => XS.iconst X0.here hx rfl (hb hby d1_38) kt) ?_
  show Go p e below _ (s₁.setTop (mkF m 39 #[.val (.long k), .second, .val (.long u4), .second] [(.int (2 : Int32)), (.long u4), (.long u4)]))
  refine Go.st (fun _ kt => XS.lshl X0.here hx rfl (hb hby d1_39) rfl kt) ?_
  show Go p e below _ (s₁.setTop (mkF m 40 #[.val (.long k), .second, .val (.long u4), .second] [(.long (u4 <<< ((2 : Int32) &&& 0x3f).toInt64)), (.long u4)]))
  refine Go.st (fun _ kt => XS.ladd X0.here hx rfl (hb hby d1_40) rfl kt) ?_
  show Go p e below _ (s₁.setTop (mkF m 41 #[.val (.long k), .second, .val (.long u4), .second] [(.long (u4 + (u4 <<< ((2 : Int32) &&& 0x3f).toInt64)))]))
  refine Go.st (fun _ kt => XS.lloadN X0.here hx rfl (hb hby d1_41) rfl kt) ?_
  show Go p e below _ (s₁.setTop (mkF m 42 #[.val (.long k), .second, .val (.long u4), .second] [(.long u4), (.long (u4 + (u4 <<< ((2 : Int32) &&& 0x3f).toInt64)))]))
  refine Go.st (fun _ kt => XS.iconst X0.here hx rfl (hb hby d1_42) kt) ?_
  show Go p e below _ (s₁.setTop (mkF m 43 #[.val (.long k), .second, .val (.long u4), .second] [(.int (4 : Int32)), (.long u4), (.long (u4 + (u4 <<< ((2 : Int32) &&& 0x3f).toInt64)))]))
  refine Go.st (fun _ kt => XS.lshl X0.here hx rfl (hb hby d1_43) rfl kt) ?_
  show Go p e below _ (s₁.setTop (mkF m 44 #[.val (.long k), .second, .val (.long u4), .second] [(.long (u4 <<< ((4 : Int32) &&& 0x3f).toInt64)), (.long (u4 + (u4 <<< ((2 : Int32) &&& 0x3f).toInt64)))]))
  refine Go.st (fun _ kt => XS.ladd X0.here hx rfl (hb hby d1_44) rfl kt) ?_
  show Go p e below _ (s₁.setTop (mkF m 45 #[.val (.long k), .second, .val (.long u4), .second] [(.long ((u4 + (u4 <<< ((2 : Int32) &&& 0x3f).toInt64)) + (u4 <<< ((4 : Int32) &&& 0x3f).toInt64)))]))
  generalize hu5 : (((u4 + (u4 <<< ((2 : Int32) &&& 0x3f).toInt64)) + (u4 <<< ((4 : Int32) &&& 0x3f).toInt64)) : Int64) = u5
  show Go p e below _ (s₁.setTop (mkF m 45 #[.val (.long k), .second, .val (.long u4), .second] [(.long u5)]))
  refine Go.st (fun _ kt => XS.lstoreN X0.here hx rfl (hb hby d1_45) rfl (l' := #[.val (.long k), .second, .val (.long u5), .second]) rfl kt) ?_
  show Go p e below _ (s₁.setTop (mkF m 46 #[.val (.long k), .second, .val (.long u5), .second] []))
  refine Go.st (fun _ kt => XS.lloadN X0.here hx rfl (hb hby d1_46) rfl kt) ?_
  show Go p e below _ (s₁.setTop (mkF m 47 #[.val (.long k), .second, .val (.long u5), .second] [(.long u5)]))
  refine Go.st (fun _ kt => XS.lloadN X0.here hx rfl (hb hby d1_47) rfl kt) ?_
  show Go p e below _ (s₁.setTop (mkF m 48 #[.val (.long k), .second, .val (.long u5), .second] [(.long u5), (.long u5)]))
  refine Go.st (fun _ kt => XS.bipush X0.here hx rfl (hb hby d1_48) kt) ?_
  show Go p e below _ (s₁.setTop (mkF m 50 #[.val (.long k), .second, .val (.long u5), .second] [(.int (28 : Int32)), (.long u5), (.long u5)]))
  refine Go.st (fun _ kt => XS.lshr X0.here hx rfl (hb hby d1_50) rfl kt) ?_
  show Go p e below _ (s₁.setTop (mkF m 51 #[.val (.long k), .second, .val (.long u5), .second] [(.long (u5 >>> ((28 : Int32) &&& 0x3f).toInt64)), (.long u5)]))
  refine Go.st (fun _ kt => XS.lxor X0.here hx rfl (hb hby d1_51) rfl kt) ?_
  show Go p e below _ (s₁.setTop (mkF m 52 #[.val (.long k), .second, .val (.long u5), .second] [(.long (u5 ^^^ (u5 >>> ((28 : Int32) &&& 0x3f).toInt64)))]))
  generalize hu6 : ((u5 ^^^ (u5 >>> ((28 : Int32) &&& 0x3f).toInt64)) : Int64) = u6
  show Go p e below _ (s₁.setTop (mkF m 52 #[.val (.long k), .second, .val (.long u5), .second] [(.long u6)]))
  refine Go.st (fun _ kt => XS.lstoreN X0.here hx rfl (hb hby d1_52) rfl (l' := #[.val (.long k), .second, .val (.long u6), .second]) rfl kt) ?_
  show Go p e below _ (s₁.setTop (mkF m 53 #[.val (.long k), .second, .val (.long u6), .second] []))
  refine Go.st (fun _ kt => XS.lloadN X0.here hx rfl (hb hby d1_53) rfl kt) ?_
  show Go p e below _ (s₁.setTop (mkF m 54 #[.val (.long k), .second, .val (.long u6), .second] [(.long u6)]))
  refine Go.st (fun _ kt => XS.lloadN X0.here hx rfl (hb hby d1_54) rfl kt) ?_
  show Go p e below _ (s₁.setTop (mkF m 55 #[.val (.long k), .second, .val (.long u6), .second] [(.long u6), (.long u6)]))
  refine Go.st (fun _ kt => XS.bipush X0.here hx rfl (hb hby d1_55) kt) ?_
  show Go p e below _ (s₁.setTop (mkF m 57 #[.val (.long k), .second, .val (.long u6), .second] [(.int (31 : Int32)), (.long u6), (.long u6)]))
  refine Go.st (fun _ kt => XS.lshl X0.here hx rfl (hb hby d1_57) rfl kt) ?_
  show Go p e below _ (s₁.setTop (mkF m 58 #[.val (.long k), .second, .val (.long u6), .second] [(.long (u6 <<< ((31 : Int32) &&& 0x3f).toInt64)), (.long u6)]))
  refine Go.st (fun _ kt => XS.ladd X0.here hx rfl (hb hby d1_58) rfl kt) ?_
  show Go p e below _ (s₁.setTop (mkF m 59 #[.val (.long k), .second, .val (.long u6), .second] [(.long (u6 + (u6 <<< ((31 : Int32) &&& 0x3f).toInt64)))]))
  refine Go.retL X0 hx Bd.returns (BodyLoose.notSynchronized Bd) (hb hby d1_59) (Q := (Q_rm1 Z k h0 n0)) (by decide) (by decide) ?_
  show (Q_rm1 Z k h0 n0) _ s₁.heap _
  rw [e0]
  exact ⟨by subst hu6 hu5 hu4 hu3 hu2 hu1; rfl, N0, rfl⟩
theorem d2_0 : decode method_5_code 0 = .ok (.lload_n 0, 1) := by decide +kernel
theorem d2_1 : decode method_5_code 1 = .ok (.lstore_n 2, 1) := by decide +kernel
theorem d2_2 : decode method_5_code 2 = .ok (.lload_n 2, 1) := by decide +kernel
theorem d2_3 : decode method_5_code 3 = .ok (.ldc2_w 35, 3) := by decide +kernel
theorem d2_6 : decode method_5_code 6 = .ok (.lload_n 0, 1) := by decide +kernel
theorem d2_7 : decode method_5_code 7 = .ok (.lload_n 2, 1) := by decide +kernel
theorem d2_8 : decode method_5_code 8 = .ok (.lmul, 1) := by decide +kernel
theorem d2_9 : decode method_5_code 9 = .ok (.lsub, 1) := by decide +kernel
theorem d2_10 : decode method_5_code 10 = .ok (.lmul, 1) := by decide +kernel
theorem d2_11 : decode method_5_code 11 = .ok (.lstore_n 2, 1) := by decide +kernel
theorem d2_12 : decode method_5_code 12 = .ok (.lload_n 2, 1) := by decide +kernel
theorem d2_13 : decode method_5_code 13 = .ok (.ldc2_w 35, 3) := by decide +kernel
theorem d2_16 : decode method_5_code 16 = .ok (.lload_n 0, 1) := by decide +kernel
theorem d2_17 : decode method_5_code 17 = .ok (.lload_n 2, 1) := by decide +kernel
theorem d2_18 : decode method_5_code 18 = .ok (.lmul, 1) := by decide +kernel
theorem d2_19 : decode method_5_code 19 = .ok (.lsub, 1) := by decide +kernel
theorem d2_20 : decode method_5_code 20 = .ok (.lmul, 1) := by decide +kernel
theorem d2_21 : decode method_5_code 21 = .ok (.lstore_n 2, 1) := by decide +kernel
theorem d2_22 : decode method_5_code 22 = .ok (.lload_n 2, 1) := by decide +kernel
theorem d2_23 : decode method_5_code 23 = .ok (.ldc2_w 35, 3) := by decide +kernel
theorem d2_26 : decode method_5_code 26 = .ok (.lload_n 0, 1) := by decide +kernel
theorem d2_27 : decode method_5_code 27 = .ok (.lload_n 2, 1) := by decide +kernel
theorem d2_28 : decode method_5_code 28 = .ok (.lmul, 1) := by decide +kernel
theorem d2_29 : decode method_5_code 29 = .ok (.lsub, 1) := by decide +kernel
theorem d2_30 : decode method_5_code 30 = .ok (.lmul, 1) := by decide +kernel
theorem d2_31 : decode method_5_code 31 = .ok (.lstore_n 2, 1) := by decide +kernel
theorem d2_32 : decode method_5_code 32 = .ok (.lload_n 2, 1) := by decide +kernel
theorem d2_33 : decode method_5_code 33 = .ok (.ldc2_w 35, 3) := by decide +kernel
theorem d2_36 : decode method_5_code 36 = .ok (.lload_n 0, 1) := by decide +kernel
theorem d2_37 : decode method_5_code 37 = .ok (.lload_n 2, 1) := by decide +kernel
theorem d2_38 : decode method_5_code 38 = .ok (.lmul, 1) := by decide +kernel
theorem d2_39 : decode method_5_code 39 = .ok (.lsub, 1) := by decide +kernel
theorem d2_40 : decode method_5_code 40 = .ok (.lmul, 1) := by decide +kernel
theorem d2_41 : decode method_5_code 41 = .ok (.lstore_n 2, 1) := by decide +kernel
theorem d2_42 : decode method_5_code 42 = .ok (.lload_n 2, 1) := by decide +kernel
theorem d2_43 : decode method_5_code 43 = .ok (.ldc2_w 35, 3) := by decide +kernel
theorem d2_46 : decode method_5_code 46 = .ok (.lload_n 0, 1) := by decide +kernel
theorem d2_47 : decode method_5_code 47 = .ok (.lload_n 2, 1) := by decide +kernel
theorem d2_48 : decode method_5_code 48 = .ok (.lmul, 1) := by decide +kernel
theorem d2_49 : decode method_5_code 49 = .ok (.lsub, 1) := by decide +kernel
theorem d2_50 : decode method_5_code 50 = .ok (.lmul, 1) := by decide +kernel
theorem d2_51 : decode method_5_code 51 = .ok (.lstore_n 2, 1) := by decide +kernel
theorem d2_52 : decode method_5_code 52 = .ok (.lload_n 2, 1) := by decide +kernel
theorem d2_53 : decode method_5_code 53 = .ok (.lreturn, 1) := by decide +kernel
theorem own_pn1 : plainName "com/example/rowsieve/rowsieve/kind/bloom/ValueHashMixPinLaw" = true := by first | (simp [plainName, overriddenIn]; done) | decide +kernel
def Q_rm2 (Z : State) (k : Int64) (h0 : Heap) (n0 : Nat) (v : Option Value) (h : Heap) (L : List Loc) : Prop := v = some (.long (own_inv k)) ∧ Fr n0 L ∧ h = h0
theorem ef_rm2 (m : MethodId) (k : Int64) : entryFrame m #[(.long k)] 4 = mkF m 0 #[.val (.long k), .second, .unset, .unset] [] := by first | (simp [entryFrame, mkF, argsToLocals, Value.category]; done) | rfl
set_option maxRecDepth 65536 in
set_option maxHeartbeats 40000000 in
theorem rm2 (l : Launch) (Z : State) (a0 : Array Value) (hw : ∀ d ∈ tables_1, d.before a0 Z = true) (ws : List Jvm.Cond) (k : Int64) (h0 : Heap) (n0 : Nat) (Z0 : n0 ≤ h0.size) :
    MetFree l (⟨"com/example/rowsieve/rowsieve/kind/bloom/ValueHashMixPinLaw", "inverse", "(J)J"⟩ : MethodName) (head1 (Jvm.Cond.code (⟨"com/example/rowsieve/rowsieve/kind/bloom/ValueHashMixPinLaw", "inverse", "(J)J"⟩ : MethodName) method_5_code 4 (some .long) :: ws) ({ frames := 0, cells := 0, slots := 0, locals := 0 } : Room)) (fun a U => a = #[(.long k)] ∧ Z.Warmed39 U.vm ∧ U.heap = h0) (fun _ _ _ _ _ => True) (fun _ U o U' => ∃ v L, o = .returned v ∧ (Q_rm2 Z k h0 n0) v U'.heap L ∧ FrameEnd U o U' L ({ frames := 0, cells := 0, slots := 0, locals := 0 } : Room).cells ({ frames := 0, cells := 0, slots := 0, locals := 0 } : Room).slots) := by
  refine MetFree.of_bodySF (plainFor_of_name own_pn1) hisR ?_
  intro p e s m args below meth c s₁ Bd hml0 hP hK
  obtain ⟨rfl, hZ, hh⟩ := hP
  have hx := Bd.exec
  have hby := Bd.bytes
  have hml : c.maxLocals = 4 := hml0
  have hown : s.vm.findClass "com/example/rowsieve/rowsieve/kind/bloom/ValueHashMixPinLaw" = some m.cls := findClass_of_methodNamed Bd.named
  have hnm := (name_of_methodNamed Bd.named Bd.method).1
  have X0 : Stand p l e ({ frames := 0, cells := 0, slots := 0, locals := 0 } : Room) s m #[(.long k)] below meth c s₁ [] 0 0 := Stand.of_body Bd
  have e0 : s₁.heap = h0 := by rw [← hh, Bd.state]; rfl
  have N0 := Fr.nil n0
  refine Go.st (G := fun s₂ o => ∃ v L, o = .returned v ∧ (Q_rm2 Z k h0 n0) v s₂.heap L ∧ FrameEnd s o s₂ L ({ frames := 0, cells := 0, slots := 0, locals := 0 } : Room).cells ({ frames := 0, cells := 0, slots := 0, locals := 0 } : Room).slots) (fun t kt => castTop (ef_rm2 m k) kt) ?_
  show Go p e below _ (s₁.setTop (mkF m 0 #[.val (.long k), .second, .unset, .unset] []))
  refine Go.st (fun _ kt => XS.lloadN X0.here hx rfl (hb hby d2_0) rfl kt) ?_
  show Go p e below _ (s₁.setTop (mkF m 1 #[.val (.long k), .second, .unset, .unset] [(.long k)]))
  refine Go.st (fun _ kt => XS.lstoreN X0.here hx rfl (hb hby d2_1) rfl (l' := #[.val (.long k), .second, .val (.long k), .second]) rfl kt) ?_
  show Go p e below _ (s₁.setTop (mkF m 2 #[.val (.long k), .second, .val (.long k), .second] []))
  refine Go.st (fun _ kt => XS.lloadN X0.here hx rfl (hb hby d2_2) rfl kt) ?_
  show Go p e below _ (s₁.setTop (mkF m 3 #[.val (.long k), .second, .val (.long k), .second] [(.long k)]))
  refine Go.st (fun _ kt => X0.ldc2Long hx hown (mvT hZ (hw _ (List.mem_of_getElem? (i := 10) rfl))) (g := (mkF m 3 #[.val (.long k), .second, .val (.long k), .second] [(.long k)])) rfl (hb hby d2_3) _ kt) ?_
  show Go p e below _ (s₁.setTop (mkF m 6 #[.val (.long k), .second, .val (.long k), .second] [(.long (2 : Int64)), (.long k)]))
  refine Go.st (fun _ kt => XS.lloadN X0.here hx rfl (hb hby d2_6) rfl kt) ?_
  show Go p e below _ (s₁.setTop (mkF m 7 #[.val (.long k), .second, .val (.long k), .second] [(.long k), (.long (2 : Int64)), (.long k)]))
  refine Go.st (fun _ kt => XS.lloadN X0.here hx rfl (hb hby d2_7) rfl kt) ?_
  show Go p e below _ (s₁.setTop (mkF m 8 #[.val (.long k), .second, .val (.long k), .second] [(.long k), (.long k), (.long (2 : Int64)), (.long k)]))
  refine Go.st (fun _ kt => XS.lmul X0.here hx rfl (hb hby d2_8) rfl kt) ?_
  show Go p e below _ (s₁.setTop (mkF m 9 #[.val (.long k), .second, .val (.long k), .second] [(.long (k * k)), (.long (2 : Int64)), (.long k)]))
  refine Go.st (fun _ kt => XS.lsub X0.here hx rfl (hb hby d2_9) rfl kt) ?_
  show Go p e below _ (s₁.setTop (mkF m 10 #[.val (.long k), .second, .val (.long k), .second] [(.long ((2 : Int64) - (k * k))), (.long k)]))
  refine Go.st (fun _ kt => XS.lmul X0.here hx rfl (hb hby d2_10) rfl kt) ?_
  show Go p e below _ (s₁.setTop (mkF m 11 #[.val (.long k), .second, .val (.long k), .second] [(.long (k * ((2 : Int64) - (k * k))))]))
  generalize hu1 : ((k * ((2 : Int64) - (k * k))) : Int64) = u1
  show Go p e below _ (s₁.setTop (mkF m 11 #[.val (.long k), .second, .val (.long k), .second] [(.long u1)]))
  refine Go.st (fun _ kt => XS.lstoreN X0.here hx rfl (hb hby d2_11) rfl (l' := #[.val (.long k), .second, .val (.long u1), .second]) rfl kt) ?_
  show Go p e below _ (s₁.setTop (mkF m 12 #[.val (.long k), .second, .val (.long u1), .second] []))
  refine Go.st (fun _ kt => XS.lloadN X0.here hx rfl (hb hby d2_12) rfl kt) ?_
  show Go p e below _ (s₁.setTop (mkF m 13 #[.val (.long k), .second, .val (.long u1), .second] [(.long u1)]))
  refine Go.st (fun _ kt => X0.ldc2Long hx hown (mvT hZ (hw _ (List.mem_of_getElem? (i := 10) rfl))) (g := (mkF m 13 #[.val (.long k), .second, .val (.long u1), .second] [(.long u1)])) rfl (hb hby d2_13) _ kt) ?_
  show Go p e below _ (s₁.setTop (mkF m 16 #[.val (.long k), .second, .val (.long u1), .second] [(.long (2 : Int64)), (.long u1)]))
  refine Go.st (fun _ kt => XS.lloadN X0.here hx rfl (hb hby d2_16) rfl kt) ?_
  show Go p e below _ (s₁.setTop (mkF m 17 #[.val (.long k), .second, .val (.long u1), .second] [(.long k), (.long (2 : Int64)), (.long u1)]))
  refine Go.st (fun _ kt => XS.lloadN X0.here hx rfl (hb hby d2_17) rfl kt) ?_
  show Go p e below _ (s₁.setTop (mkF m 18 #[.val (.long k), .second, .val (.long u1), .second] [(.long u1), (.long k), (.long (2 : Int64)), (.long u1)]))
  refine Go.st (fun _ kt => XS.lmul X0.here hx rfl (hb hby d2_18) rfl kt) ?_
  show Go p e below _ (s₁.setTop (mkF m 19 #[.val (.long k), .second, .val (.long u1), .second] [(.long (k * u1)), (.long (2 : Int64)), (.long u1)]))
  refine Go.st (fun _ kt => XS.lsub X0.here hx rfl (hb hby d2_19) rfl kt) ?_
  show Go p e below _ (s₁.setTop (mkF m 20 #[.val (.long k), .second, .val (.long u1), .second] [(.long ((2 : Int64) - (k * u1))), (.long u1)]))
  refine Go.st (fun _ kt => XS.lmul X0.here hx rfl (hb hby d2_20) rfl kt) ?_
  show Go p e below _ (s₁.setTop (mkF m 21 #[.val (.long k), .second, .val (.long u1), .second] [(.long (u1 * ((2 : Int64) - (k * u1))))]))
  generalize hu2 : ((u1 * ((2 : Int64) - (k * u1))) : Int64) = u2
  show Go p e below _ (s₁.setTop (mkF m 21 #[.val (.long k), .second, .val (.long u1), .second] [(.long u2)]))
  refine Go.st (fun _ kt => XS.lstoreN X0.here hx rfl (hb hby d2_21) rfl (l' := #[.val (.long k), .second, .val (.long u2), .second]) rfl kt) ?_
  show Go p e below _ (s₁.setTop (mkF m 22 #[.val (.long k), .second, .val (.long u2), .second] []))
  refine Go.st (fun _ kt => XS.lloadN X0.here hx rfl (hb hby d2_22) rfl kt) ?_
  show Go p e below _ (s₁.setTop (mkF m 23 #[.val (.long k), .second, .val (.long u2), .second] [(.long u2)]))
  refine Go.st (fun _ kt => X0.ldc2Long hx hown (mvT hZ (hw _ (List.mem_of_getElem? (i := 10) rfl))) (g := (mkF m 23 #[.val (.long k), .second, .val (.long u2), .second] [(.long u2)])) rfl (hb hby d2_23) _ kt) ?_
  show Go p e below _ (s₁.setTop (mkF m 26 #[.val (.long k), .second, .val (.long u2), .second] [(.long (2 : Int64)), (.long u2)]))
  refine Go.st (fun _ kt => XS.lloadN X0.here hx rfl (hb hby d2_26) rfl kt) ?_
  show Go p e below _ (s₁.setTop (mkF m 27 #[.val (.long k), .second, .val (.long u2), .second] [(.long k), (.long (2 : Int64)), (.long u2)]))
  refine Go.st (fun _ kt => XS.lloadN X0.here hx rfl (hb hby d2_27) rfl kt) ?_
  show Go p e below _ (s₁.setTop (mkF m 28 #[.val (.long k), .second, .val (.long u2), .second] [(.long u2), (.long k), (.long (2 : Int64)), (.long u2)]))
  refine Go.st (fun _ kt => XS.lmul X0.here hx rfl (hb hby d2_28) rfl kt) ?_
  show Go p e below _ (s₁.setTop (mkF m 29 #[.val (.long k), .second, .val (.long u2), .second] [(.long (k * u2)), (.long (2 : Int64)), (.long u2)]))
  refine Go.st (fun _ kt => XS.lsub X0.here hx rfl (hb hby d2_29) rfl kt) ?_
  show Go p e below _ (s₁.setTop (mkF m 30 #[.val (.long k), .second, .val (.long u2), .second] [(.long ((2 : Int64) - (k * u2))), (.long u2)]))
  refine Go.st (fun _ kt => XS.lmul X0.here hx rfl (hb hby d2_30) rfl kt) ?_
  show Go p e below _ (s₁.setTop (mkF m 31 #[.val (.long k), .second, .val (.long u2), .second] [(.long (u2 * ((2 : Int64) - (k * u2))))]))
  generalize hu3 : ((u2 * ((2 : Int64) - (k * u2))) : Int64) = u3
  show Go p e below _ (s₁.setTop (mkF m 31 #[.val (.long k), .second, .val (.long u2), .second] [(.long u3)]))
  refine Go.st (fun _ kt => XS.lstoreN X0.here hx rfl (hb hby d2_31) rfl (l' := #[.val (.long k), .second, .val (.long u3), .second]) rfl kt) ?_
  show Go p e below _ (s₁.setTop (mkF m 32 #[.val (.long k), .second, .val (.long u3), .second] []))
  refine Go.st (fun _ kt => XS.lloadN X0.here hx rfl (hb hby d2_32) rfl kt) ?_
  show Go p e below _ (s₁.setTop (mkF m 33 #[.val (.long k), .second, .val (.long u3), .second] [(.long u3)]))
  refine Go.st (fun _ kt => X0.ldc2Long hx hown (mvT hZ (hw _ (List.mem_of_getElem? (i := 10) rfl))) (g := (mkF m 33 #[.val (.long k), .second, .val (.long u3), .second] [(.long u3)])) rfl (hb hby d2_33) _ kt) ?_
  show Go p e below _ (s₁.setTop (mkF m 36 #[.val (.long k), .second, .val (.long u3), .second] [(.long (2 : Int64)), (.long u3)]))
  refine Go.st (fun _ kt => XS.lloadN X0.here hx rfl (hb hby d2_36) rfl kt) ?_
  show Go p e below _ (s₁.setTop (mkF m 37 #[.val (.long k), .second, .val (.long u3), .second] [(.long k), (.long (2 : Int64)), (.long u3)]))
  refine Go.st (fun _ kt => XS.lloadN X0.here hx rfl (hb hby d2_37) rfl kt) ?_
  show Go p e below _ (s₁.setTop (mkF m 38 #[.val (.long k), .second, .val (.long u3), .second] [(.long u3), (.long k), (.long (2 : Int64)), (.long u3)]))
  refine Go.st (fun _ kt => XS.lmul X0.here hx rfl (hb hby d2_38) rfl kt) ?_
  show Go p e below _ (s₁.setTop (mkF m 39 #[.val (.long k), .second, .val (.long u3), .second] [(.long (k * u3)), (.long (2 : Int64)), (.long u3)]))
  refine Go.st (fun _ kt => XS.lsub X0.here hx rfl (hb hby d2_39) rfl kt) ?_
  show Go p e below _ (s₁.setTop (mkF m 40 #[.val (.long k), .second, .val (.long u3), .second] [(.long ((2 : Int64) - (k * u3))), (.long u3)]))
  refine Go.st (fun _ kt => XS.lmul X0.here hx rfl (hb hby d2_40) rfl kt) ?_
  show Go p e below _ (s₁.setTop (mkF m 41 #[.val (.long k), .second, .val (.long u3), .second] [(.long (u3 * ((2 : Int64) - (k * u3))))]))
  generalize hu4 : ((u3 * ((2 : Int64) - (k * u3))) : Int64) = u4
  show Go p e below _ (s₁.setTop (mkF m 41 #[.val (.long k), .second, .val (.long u3), .second] [(.long u4)]))
  refine Go.st (fun _ kt => XS.lstoreN X0.here hx rfl (hb hby d2_41) rfl (l' := #[.val (.long k), .second, .val (.long u4), .second]) rfl kt) ?_
  show Go p e below _ (s₁.setTop (mkF m 42 #[.val (.long k), .second, .val (.long u4), .second] []))
  refine Go.st (fun _ kt => XS.lloadN X0.here hx rfl (hb hby d2_42) rfl kt) ?_
  show Go p e below _ (s₁.setTop (mkF m 43 #[.val (.long k), .second, .val (.long u4), .second] [(.long u4)]))
  refine Go.st (fun _ kt => X0.ldc2Long hx hown (mvT hZ (hw _ (List.mem_of_getElem? (i := 10) rfl))) (g := (mkF m 43 #[.val (.long k), .second, .val (.long u4), .second] [(.long u4)])) rfl (hb hby d2_43) _ kt) ?_
  show Go p e below _ (s₁.setTop (mkF m 46 #[.val (.long k), .second, .val (.long u4), .second] [(.long (2 : Int64)), (.long u4)]))
  refine Go.st (fun _ kt => XS.lloadN X0.here hx rfl (hb hby d2_46) rfl kt) ?_
  show Go p e below _ (s₁.setTop (mkF m 47 #[.val (.long k), .second, .val (.long u4), .second] [(.long k), (.long (2 : Int64)), (.long u4)]))
  refine Go.st (fun _ kt => XS.lloadN X0.here hx rfl (hb hby d2_47) rfl kt) ?_
  show Go p e below _ (s₁.setTop (mkF m 48 #[.val (.long k), .second, .val (.long u4), .second] [(.long u4), (.long k), (.long (2 : Int64)), (.long u4)]))
  refine Go.st (fun _ kt => XS.lmul X0.here hx rfl (hb hby d2_48) rfl kt) ?_
  show Go p e below _ (s₁.setTop (mkF m 49 #[.val (.long k), .second, .val (.long u4), .second] [(.long (k * u4)), (.long (2 : Int64)), (.long u4)]))
  refine Go.st (fun _ kt => XS.lsub X0.here hx rfl (hb hby d2_49) rfl kt) ?_
  show Go p e below _ (s₁.setTop (mkF m 50 #[.val (.long k), .second, .val (.long u4), .second] [(.long ((2 : Int64) - (k * u4))), (.long u4)]))
  refine Go.st (fun _ kt => XS.lmul X0.here hx rfl (hb hby d2_50) rfl kt) ?_
  show Go p e below _ (s₁.setTop (mkF m 51 #[.val (.long k), .second, .val (.long u4), .second] [(.long (u4 * ((2 : Int64) - (k * u4))))]))
  generalize hu5 : ((u4 * ((2 : Int64) - (k * u4))) : Int64) = u5
  show Go p e below _ (s₁.setTop (mkF m 51 #[.val (.long k), .second, .val (.long u4), .second] [(.long u5)]))
  refine Go.st (fun _ kt => XS.lstoreN X0.here hx rfl (hb hby d2_51) rfl (l' := #[.val (.long k), .second, .val (.long u5), .second]) rfl kt) ?_
  show Go p e below _ (s₁.setTop (mkF m 52 #[.val (.long k), .second, .val (.long u5), .second] []))
  refine Go.st (fun _ kt => XS.lloadN X0.here hx rfl (hb hby d2_52) rfl kt) ?_
  show Go p e below _ (s₁.setTop (mkF m 53 #[.val (.long k), .second, .val (.long u5), .second] [(.long u5)]))
  refine Go.retL X0 hx Bd.returns (BodyLoose.notSynchronized Bd) (hb hby d2_53) (Q := (Q_rm2 Z k h0 n0)) (by decide) (by decide) ?_
  show (Q_rm2 Z k h0 n0) _ s₁.heap _
  rw [e0]
  exact ⟨by subst hu5 hu4 hu3 hu2 hu1; rfl, N0, rfl⟩
theorem own_pd2 : parseMethodDescriptor "(J)J" = some ⟨[.long], some .long⟩ := by decide +kernel
theorem d4_0 : decode method_4_code 0 = .ok (.lload_n 2, 1) := by decide +kernel
theorem d4_1 : decode method_4_code 1 = .ok (.ldc2_w 31, 3) := by decide +kernel
theorem d4_4 : decode method_4_code 4 = .ok (.invokestatic 15, 3) := by decide +kernel
theorem d4_7 : decode method_4_code 7 = .ok (.lmul, 1) := by decide +kernel
theorem d4_8 : decode method_4_code 8 = .ok (.lstore 4, 2) := by decide +kernel
theorem d4_10 : decode method_4_code 10 = .ok (.lload 4, 2) := by decide +kernel
theorem d4_12 : decode method_4_code 12 = .ok (.lconst 0, 1) := by decide +kernel
theorem d4_13 : decode method_4_code 13 = .ok (.lcmp, 1) := by decide +kernel
theorem d4_14 : decode method_4_code 14 = .ok (.ifCond .ge 5, 3) := by decide +kernel
theorem d4_17 : decode method_4_code 17 = .ok (.iconst 0, 1) := by decide +kernel
theorem d4_18 : decode method_4_code 18 = .ok (.ireturn, 1) := by decide +kernel
theorem d4_19 : decode method_4_code 19 = .ok (.lload 4, 2) := by decide +kernel
theorem d4_21 : decode method_4_code 21 = .ok (.lload 4, 2) := by decide +kernel
theorem d4_23 : decode method_4_code 23 = .ok (.bipush 24, 2) := by decide +kernel
theorem d4_25 : decode method_4_code 25 = .ok (.lushr, 1) := by decide +kernel
theorem d4_26 : decode method_4_code 26 = .ok (.lxor, 1) := by decide +kernel
theorem d4_27 : decode method_4_code 27 = .ok (.lload 4, 2) := by decide +kernel
theorem d4_29 : decode method_4_code 29 = .ok (.bipush 48, 2) := by decide +kernel
theorem d4_31 : decode method_4_code 31 = .ok (.lushr, 1) := by decide +kernel
theorem d4_32 : decode method_4_code 32 = .ok (.lxor, 1) := by decide +kernel
theorem d4_33 : decode method_4_code 33 = .ok (.lstore 6, 2) := by decide +kernel
theorem d4_35 : decode method_4_code 35 = .ok (.ldc2_w 33, 3) := by decide +kernel
theorem d4_38 : decode method_4_code 38 = .ok (.invokestatic 15, 3) := by decide +kernel
theorem d4_41 : decode method_4_code 41 = .ok (.lstore 8, 2) := by decide +kernel
theorem d4_43 : decode method_4_code 43 = .ok (.lload 6, 2) := by decide +kernel
theorem d4_45 : decode method_4_code 45 = .ok (.lconst 1, 1) := by decide +kernel
theorem d4_46 : decode method_4_code 46 = .ok (.ladd, 1) := by decide +kernel
theorem d4_47 : decode method_4_code 47 = .ok (.lload 8, 2) := by decide +kernel
theorem d4_49 : decode method_4_code 49 = .ok (.lmul, 1) := by decide +kernel
theorem d4_50 : decode method_4_code 50 = .ok (.lload_n 0, 1) := by decide +kernel
theorem d4_51 : decode method_4_code 51 = .ok (.lcmp, 1) := by decide +kernel
theorem d4_52 : decode method_4_code 52 = .ok (.ifCond .eq 19, 3) := by decide +kernel
theorem d4_55 : decode method_4_code 55 = .ok (.lload 6, 2) := by decide +kernel
theorem d4_57 : decode method_4_code 57 = .ok (.ldc2_w 24, 3) := by decide +kernel
theorem d4_60 : decode method_4_code 60 = .ok (.lxor, 1) := by decide +kernel
theorem d4_61 : decode method_4_code 61 = .ok (.lconst 1, 1) := by decide +kernel
theorem d4_62 : decode method_4_code 62 = .ok (.ladd, 1) := by decide +kernel
theorem d4_63 : decode method_4_code 63 = .ok (.lload 8, 2) := by decide +kernel
theorem d4_65 : decode method_4_code 65 = .ok (.lmul, 1) := by decide +kernel
theorem d4_66 : decode method_4_code 66 = .ok (.lload_n 0, 1) := by decide +kernel
theorem d4_67 : decode method_4_code 67 = .ok (.lcmp, 1) := by decide +kernel
theorem d4_68 : decode method_4_code 68 = .ok (.ifCond .ne 7, 3) := by decide +kernel
theorem d4_71 : decode method_4_code 71 = .ok (.iconst 1, 1) := by decide +kernel
theorem d4_72 : decode method_4_code 72 = .ok (.goto 4, 3) := by decide +kernel
theorem d4_75 : decode method_4_code 75 = .ok (.iconst 0, 1) := by decide +kernel
theorem d4_76 : decode method_4_code 76 = .ok (.ireturn, 1) := by decide +kernel
def Q_rm4 (Z : State) (k : Int64) (g : Int64) (h0 : Heap) (n0 : Nat) (v : Option Value) (h : Heap) (L : List Loc) : Prop := ∃ z, v = some (.int z) ∧ own_B (own_P3 k g) z ∧ Fr n0 L ∧ h = h0
theorem ef_rm4 (m : MethodId) (k : Int64) (g : Int64) : entryFrame m #[(.long k), (.long g)] 10 = mkF m 0 #[.val (.long k), .second, .val (.long g), .second, .unset, .unset, .unset, .unset, .unset, .unset] [] := by first | (simp [entryFrame, mkF, argsToLocals, Value.category]; done) | rfl
set_option maxRecDepth 65536 in
set_option maxHeartbeats 40000000 in
theorem rm4 (l : Launch) (Z : State) (a0 : Array Value) (hw : ∀ d ∈ tables_1, d.before a0 Z = true) (ws : List Jvm.Cond) (k : Int64) (g : Int64) (h0 : Heap) (n0 : Nat) (Z0 : n0 ≤ h0.size) :
    MetFree l (⟨"com/example/rowsieve/rowsieve/kind/bloom/ValueHashMixPinLaw", "fromH3", "(JJ)Z"⟩ : MethodName) (head1 (Jvm.Cond.code (⟨"com/example/rowsieve/rowsieve/kind/bloom/ValueHashMixPinLaw", "fromH3", "(JJ)Z"⟩ : MethodName) method_4_code 10 (some .boolean) :: ws) ({ frames := 1, cells := 0, slots := 0, locals := 17 } : Room)) (fun a U => a = #[(.long k), (.long g)] ∧ Z.Warmed39 U.vm ∧ U.heap = h0) (fun _ _ _ _ _ => True) (fun _ U o U' => ∃ v L, o = .returned v ∧ (Q_rm4 Z k g h0 n0) v U'.heap L ∧ FrameEnd U o U' L ({ frames := 1, cells := 0, slots := 0, locals := 17 } : Room).cells ({ frames := 1, cells := 0, slots := 0, locals := 17 } : Room).slots) := by
  refine MetFree.of_bodySF (plainFor_of_name own_pn1) hisR ?_
  intro p e s m args below meth c s₁ Bd hml0 hP hK
  obtain ⟨rfl, hZ, hh⟩ := hP
  have hx := Bd.exec
  have hby := Bd.bytes
  have hml : c.maxLocals = 10 := hml0
  have hown : s.vm.findClass "com/example/rowsieve/rowsieve/kind/bloom/ValueHashMixPinLaw" = some m.cls := findClass_of_methodNamed Bd.named
  have hnm := (name_of_methodNamed Bd.named Bd.method).1
  have X0 : Stand p l e ({ frames := 1, cells := 0, slots := 0, locals := 17 } : Room) s m #[(.long k), (.long g)] below meth c s₁ [] 0 0 := Stand.of_body Bd
  have e0 : s₁.heap = h0 := by rw [← hh, Bd.state]; rfl
  have N0 := Fr.nil n0
  refine Go.st (G := fun s₂ o => ∃ v L, o = .returned v ∧ (Q_rm4 Z k g h0 n0) v s₂.heap L ∧ FrameEnd s o s₂ L ({ frames := 1, cells := 0, slots := 0, locals := 17 } : Room).cells ({ frames := 1, cells := 0, slots := 0, locals := 17 } : Room).slots) (fun t kt => castTop (ef_rm4 m k g) kt) ?_
  show Go p e below _ (s₁.setTop (mkF m 0 #[.val (.long k), .second, .val (.long g), .second, .unset, .unset, .unset, .unset, .unset, .unset] []))
  refine Go.st (fun _ kt => XS.lloadN X0.here hx rfl (hb hby d4_0) rfl kt) ?_
  show Go p e below _ (s₁.setTop (mkF m 1 #[.val (.long k), .second, .val (.long g), .second, .unset, .unset, .unset, .unset, .unset, .unset] [(.long g)]))
  refine Go.st (fun _ kt => X0.ldc2Long hx hown (mvT hZ (hw _ (List.mem_of_getElem? (i := 18) rfl))) (g := (mkF m 1 #[.val (.long k), .second, .val (.long g), .second, .unset, .unset, .unset, .unset, .unset, .unset] [(.long g)])) rfl (hb hby d4_1) _ kt) ?_
  show Go p e below _ (s₁.setTop (mkF m 4 #[.val (.long k), .second, .val (.long g), .second, .unset, .unset, .unset, .unset, .unset, .unset] [(.long (265 : Int64)), (.long g)]))
  obtain ⟨_, _, ⟨T1, L1, k1, n1⟩, -, X1, ⟨Lc1, hQ1, l1, y1, z1⟩, st1⟩ := Jvm.LawKit.callS X0 hx (y := (⟨"com/example/rowsieve/rowsieve/kind/bloom/ValueHashMixPinLaw", "inverse", "(J)J"⟩ : MethodName)) hown (mvT hZ (hw _ (List.mem_of_getElem? (i := 6) rfl))) (mvT hZ (hw _ (List.mem_of_getElem? (i := 7) rfl))) (mvT hZ (hw _ (List.mem_of_getElem? (i := 8) rfl))) (mvT hZ (hw _ (List.mem_of_getElem? (i := 9) rfl))) (by decide) (backOf (W := 2) (rm2 l Z a0 hw [] (265 : Int64) h0 n0 Z0) hZ (hw _ (List.mem_of_getElem? (i := 9) rfl)) (hw _ (List.mem_of_getElem? (i := 8) rfl)) (by decide) (by decide)) (g := (mkF m 4 #[.val (.long k), .second, .val (.long g), .second, .unset, .unset, .unset, .unset, .unset, .unset] [(.long (265 : Int64)), (.long g)])) rfl (by rw [hml]; rfl) (argsL := [(.long (265 : Int64))]) (rest := [(.long g)]) (lenOf own_pd2 rfl) rfl (by show 2 * 0 + _ ≤ _; exact Nat.le_of_eq rfl) (hb hby d4_4) (fun _ _ => ⟨rfl, e0, (by decide : 0 + 0 ≤ _), (by decide : 0 + 0 ≤ _)⟩)
  dsimp only [Pt.U, Pt.locs, Pt.cells, Pt.slots] at X1 l1 y1 z1 st1 hQ1
  subst l1 y1 z1
  obtain ⟨rfl, N1q, e1⟩ := hQ1
  have N1 := Fr.app N0 N1q
  refine Go.st st1 ?_
  show Go p e below _ (T1.setTop (mkF m 7 #[.val (.long k), .second, .val (.long g), .second, .unset, .unset, .unset, .unset, .unset, .unset] [(.long (own_inv (265 : Int64))), (.long g)]))
  refine Go.st (fun _ kt => XS.lmul X1.here hx rfl (hb hby d4_7) rfl kt) ?_
  show Go p e below _ (T1.setTop (mkF m 8 #[.val (.long k), .second, .val (.long g), .second, .unset, .unset, .unset, .unset, .unset, .unset] [(.long (g * (own_inv (265 : Int64))))]))
  refine Go.st (fun _ kt => XS.lstore X1.here hx rfl (hb hby d4_8) rfl (l' := #[.val (.long k), .second, .val (.long g), .second, .val (.long (g * (own_inv (265 : Int64)))), .second, .unset, .unset, .unset, .unset]) rfl kt) ?_
  show Go p e below _ (T1.setTop (mkF m 10 #[.val (.long k), .second, .val (.long g), .second, .val (.long (g * (own_inv (265 : Int64)))), .second, .unset, .unset, .unset, .unset] []))
  refine Go.st (fun _ kt => XS.lload X1.here hx rfl (hb hby d4_10) rfl kt) ?_
  show Go p e below _ (T1.setTop (mkF m 12 #[.val (.long k), .second, .val (.long g), .second, .val (.long (g * (own_inv (265 : Int64)))), .second, .unset, .unset, .unset, .unset] [(.long (g * (own_inv (265 : Int64))))]))
  refine Go.st (fun _ kt => XS.lconst X1.here hx rfl (hb hby d4_12) kt) ?_
  show Go p e below _ (T1.setTop (mkF m 13 #[.val (.long k), .second, .val (.long g), .second, .val (.long (g * (own_inv (265 : Int64)))), .second, .unset, .unset, .unset, .unset] [(.long (0 : Int64)), (.long (g * (own_inv (265 : Int64))))]))
  refine Go.st (fun _ kt => XS.lcmp X1.here hx rfl (hb hby d4_13) rfl kt) ?_
  show Go p e below _ (T1.setTop (mkF m 14 #[.val (.long k), .second, .val (.long g), .second, .val (.long (g * (own_inv (265 : Int64)))), .second, .unset, .unset, .unset, .unset] [(.int (lcmpW (g * (own_inv (265 : Int64))) (0 : Int64)))]))
  by_cases hc14_2 : (lcmpW (g * (own_inv (265 : Int64))) (0 : Int64)) < (0 : Int32)
  · refine Go.st (fun _ kt => XS.ifNo X1.here hx rfl (hb hby d4_14) rfl ((if0 _ _).trans (tlt hc14_2).2.1) kt) ?_
    show Go p e below _ (T1.setTop (mkF m 17 #[.val (.long k), .second, .val (.long g), .second, .val (.long (g * (own_inv (265 : Int64)))), .second, .unset, .unset, .unset, .unset] []))
    refine Go.st (fun _ kt => XS.iconst X1.here hx rfl (hb hby d4_17) kt) ?_
    show Go p e below _ (T1.setTop (mkF m 18 #[.val (.long k), .second, .val (.long g), .second, .val (.long (g * (own_inv (265 : Int64)))), .second, .unset, .unset, .unset, .unset] [(.int (0 : Int32))]))
    refine Go.retN X1 hx (t := .boolean) Bd.returns (by simp) (BodyLoose.notSynchronized Bd) (hb hby d4_18) (Q := (Q_rm4 Z k g h0 n0)) (by decide) (by decide) ?_
    show (Q_rm4 Z k g h0 n0) _ T1.heap _
    rw [e1]
    exact ⟨(0 : Int32), rfl, by simp only [own_B, own_P3, own_P5, lw_lt, lw_eq, own_q, own_c, own_p, own_su] at *; simp_all, N1, rfl⟩
  · refine Go.st (fun _ kt => XS.ifYes X1.here hx rfl (pc0 := 14) (pc' := 19) rfl (hb hby d4_14) rfl ((if0 _ _).trans (flt hc14_2).2.1) (by decide) (by decide) kt) ?_
    show Go p e below _ (T1.setTop (mkF m 19 #[.val (.long k), .second, .val (.long g), .second, .val (.long (g * (own_inv (265 : Int64)))), .second, .unset, .unset, .unset, .unset] []))
    refine Go.st (fun _ kt => XS.lload X1.here hx rfl (hb hby d4_19) rfl kt) ?_
    show Go p e below _ (T1.setTop (mkF m 21 #[.val (.long k), .second, .val (.long g), .second, .val (.long (g * (own_inv (265 : Int64)))), .second, .unset, .unset, .unset, .unset] [(.long (g * (own_inv (265 : Int64))))]))
    refine Go.st (fun _ kt => XS.lload X1.here hx rfl (hb hby d4_21) rfl kt) ?_
    show Go p e below _ (T1.setTop (mkF m 23 #[.val (.long k), .second, .val (.long g), .second, .val (.long (g * (own_inv (265 : Int64)))), .second, .unset, .unset, .unset, .unset] [(.long (g * (own_inv (265 : Int64)))), (.long (g * (own_inv (265 : Int64))))]))
    refine Go.st (fun _ kt => XS.bipush X1.here hx rfl (hb hby d4_23) kt) ?_
    show Go p e below _ (T1.setTop (mkF m 25 #[.val (.long k), .second, .val (.long g), .second, .val (.long (g * (own_inv (265 : Int64)))), .second, .unset, .unset, .unset, .unset] [(.int (24 : Int32)), (.long (g * (own_inv (265 : Int64)))), (.long (g * (own_inv (265 : Int64))))]))
    refine Go.st (fun _ kt => XS.lushr X1.here hx rfl (hb hby d4_25) rfl kt) ?_
    show Go p e below _ (T1.setTop (mkF m 26 #[.val (.long k), .second, .val (.long g), .second, .val (.long (g * (own_inv (265 : Int64)))), .second, .unset, .unset, .unset, .unset] [(.long (((g * (own_inv (265 : Int64))).toUInt64 >>> ((24 : Int32) &&& 0x3f).toInt64.toUInt64).toInt64)), (.long (g * (own_inv (265 : Int64))))]))
    refine Go.st (fun _ kt => XS.lxor X1.here hx rfl (hb hby d4_26) rfl kt) ?_
    show Go p e below _ (T1.setTop (mkF m 27 #[.val (.long k), .second, .val (.long g), .second, .val (.long (g * (own_inv (265 : Int64)))), .second, .unset, .unset, .unset, .unset] [(.long ((g * (own_inv (265 : Int64))) ^^^ (((g * (own_inv (265 : Int64))).toUInt64 >>> ((24 : Int32) &&& 0x3f).toInt64.toUInt64).toInt64)))]))
    refine Go.st (fun _ kt => XS.lload X1.here hx rfl (hb hby d4_27) rfl kt) ?_
    show Go p e below _ (T1.setTop (mkF m 29 #[.val (.long k), .second, .val (.long g), .second, .val (.long (g * (own_inv (265 : Int64)))), .second, .unset, .unset, .unset, .unset] [(.long (g * (own_inv (265 : Int64)))), (.long ((g * (own_inv (265 : Int64))) ^^^ (((g * (own_inv (265 : Int64))).toUInt64 >>> ((24 : Int32) &&& 0x3f).toInt64.toUInt64).toInt64)))]))
    refine Go.st (fun _ kt => XS.bipush X1.here hx rfl (hb hby d4_29) kt) ?_
    show Go p e below _ (T1.setTop (mkF m 31 #[.val (.long k), .second, .val (.long g), .second, .val (.long (g * (own_inv (265 : Int64)))), .second, .unset, .unset, .unset, .unset] [(.int (48 : Int32)), (.long (g * (own_inv (265 : Int64)))), (.long ((g * (own_inv (265 : Int64))) ^^^ (((g * (own_inv (265 : Int64))).toUInt64 >>> ((24 : Int32) &&& 0x3f).toInt64.toUInt64).toInt64)))]))
    refine Go.st (fun _ kt => XS.lushr X1.here hx rfl (hb hby d4_31) rfl kt) ?_
    show Go p e below _ (T1.setTop (mkF m 32 #[.val (.long k), .second, .val (.long g), .second, .val (.long (g * (own_inv (265 : Int64)))), .second, .unset, .unset, .unset, .unset] [(.long (((g * (own_inv (265 : Int64))).toUInt64 >>> ((48 : Int32) &&& 0x3f).toInt64.toUInt64).toInt64)), (.long ((g * (own_inv (265 : Int64))) ^^^ (((g * (own_inv (265 : Int64))).toUInt64 >>> ((24 : Int32) &&& 0x3f).toInt64.toUInt64).toInt64)))]))
    refine Go.st (fun _ kt => XS.lxor X1.here hx rfl (hb hby d4_32) rfl kt) ?_
    show Go p e below _ (T1.setTop (mkF m 33 #[.val (.long k), .second, .val (.long g), .second, .val (.long (g * (own_inv (265 : Int64)))), .second, .unset, .unset, .unset, .unset] [(.long (((g * (own_inv (265 : Int64))) ^^^ (((g * (own_inv (265 : Int64))).toUInt64 >>> ((24 : Int32) &&& 0x3f).toInt64.toUInt64).toInt64)) ^^^ (((g * (own_inv (265 : Int64))).toUInt64 >>> ((48 : Int32) &&& 0x3f).toInt64.toUInt64).toInt64)))]))
    refine Go.st (fun _ kt => XS.lstore X1.here hx rfl (hb hby d4_33) rfl (l' := #[.val (.long k), .second, .val (.long g), .second, .val (.long (g * (own_inv (265 : Int64)))), .second, .val (.long (((g * (own_inv (265 : Int64))) ^^^ (((g * (own_inv (265 : Int64))).toUInt64 >>> ((24 : Int32) &&& 0x3f).toInt64.toUInt64).toInt64)) ^^^ (((g * (own_inv (265 : Int64))).toUInt64 >>> ((48 : Int32) &&& 0x3f).toInt64.toUInt64).toInt64))), .second, .unset, .unset]) rfl kt) ?_
    show Go p e below _ (T1.setTop (mkF m 35 #[.val (.long k), .second, .val (.long g), .second, .val (.long (g * (own_inv (265 : Int64)))), .second, .val (.long (((g * (own_inv (265 : Int64))) ^^^ (((g * (own_inv (265 : Int64))).toUInt64 >>> ((24 : Int32) &&& 0x3f).toInt64.toUInt64).toInt64)) ^^^ (((g * (own_inv (265 : Int64))).toUInt64 >>> ((48 : Int32) &&& 0x3f).toInt64.toUInt64).toInt64))), .second, .unset, .unset] []))
    refine Go.st (fun _ kt => X1.ldc2Long hx hown (mvT hZ (hw _ (List.mem_of_getElem? (i := 19) rfl))) (g := (mkF m 35 #[.val (.long k), .second, .val (.long g), .second, .val (.long (g * (own_inv (265 : Int64)))), .second, .val (.long (((g * (own_inv (265 : Int64))) ^^^ (((g * (own_inv (265 : Int64))).toUInt64 >>> ((24 : Int32) &&& 0x3f).toInt64.toUInt64).toInt64)) ^^^ (((g * (own_inv (265 : Int64))).toUInt64 >>> ((48 : Int32) &&& 0x3f).toInt64.toUInt64).toInt64))), .second, .unset, .unset] [])) rfl (hb hby d4_35) _ kt) ?_
    show Go p e below _ (T1.setTop (mkF m 38 #[.val (.long k), .second, .val (.long g), .second, .val (.long (g * (own_inv (265 : Int64)))), .second, .val (.long (((g * (own_inv (265 : Int64))) ^^^ (((g * (own_inv (265 : Int64))).toUInt64 >>> ((24 : Int32) &&& 0x3f).toInt64.toUInt64).toInt64)) ^^^ (((g * (own_inv (265 : Int64))).toUInt64 >>> ((48 : Int32) &&& 0x3f).toInt64.toUInt64).toInt64))), .second, .unset, .unset] [(.long (2097151 : Int64))]))
    obtain ⟨_, _, ⟨T3, L3, k3, n3⟩, -, X3, ⟨Lc3, hQ3, l3, y3, z3⟩, st3⟩ := Jvm.LawKit.callS X1 hx (y := (⟨"com/example/rowsieve/rowsieve/kind/bloom/ValueHashMixPinLaw", "inverse", "(J)J"⟩ : MethodName)) hown (mvT hZ (hw _ (List.mem_of_getElem? (i := 6) rfl))) (mvT hZ (hw _ (List.mem_of_getElem? (i := 7) rfl))) (mvT hZ (hw _ (List.mem_of_getElem? (i := 8) rfl))) (mvT hZ (hw _ (List.mem_of_getElem? (i := 9) rfl))) (by decide) (backOf (W := 0) (rm2 l Z a0 hw [] (2097151 : Int64) h0 n0 Z0) hZ (hw _ (List.mem_of_getElem? (i := 9) rfl)) (hw _ (List.mem_of_getElem? (i := 8) rfl)) (by decide) (by decide)) (g := (mkF m 38 #[.val (.long k), .second, .val (.long g), .second, .val (.long (g * (own_inv (265 : Int64)))), .second, .val (.long (((g * (own_inv (265 : Int64))) ^^^ (((g * (own_inv (265 : Int64))).toUInt64 >>> ((24 : Int32) &&& 0x3f).toInt64.toUInt64).toInt64)) ^^^ (((g * (own_inv (265 : Int64))).toUInt64 >>> ((48 : Int32) &&& 0x3f).toInt64.toUInt64).toInt64))), .second, .unset, .unset] [(.long (2097151 : Int64))])) rfl (by rw [hml]; rfl) (argsL := [(.long (2097151 : Int64))]) (rest := []) (lenOf own_pd2 rfl) rfl (by show 2 * 0 + _ ≤ _; exact Nat.le_of_eq rfl) (hb hby d4_38) (fun _ _ => ⟨rfl, e1, (by decide : 0 + 0 ≤ _), (by decide : 0 + 0 ≤ _)⟩)
    dsimp only [Pt.U, Pt.locs, Pt.cells, Pt.slots] at X3 l3 y3 z3 st3 hQ3
    subst l3 y3 z3
    obtain ⟨rfl, N3q, e3⟩ := hQ3
    have N3 := Fr.app N1 N3q
    refine Go.st st3 ?_
    show Go p e below _ (T3.setTop (mkF m 41 #[.val (.long k), .second, .val (.long g), .second, .val (.long (g * (own_inv (265 : Int64)))), .second, .val (.long (((g * (own_inv (265 : Int64))) ^^^ (((g * (own_inv (265 : Int64))).toUInt64 >>> ((24 : Int32) &&& 0x3f).toInt64.toUInt64).toInt64)) ^^^ (((g * (own_inv (265 : Int64))).toUInt64 >>> ((48 : Int32) &&& 0x3f).toInt64.toUInt64).toInt64))), .second, .unset, .unset] [(.long (own_inv (2097151 : Int64)))]))
    refine Go.st (fun _ kt => XS.lstore X3.here hx rfl (hb hby d4_41) rfl (l' := #[.val (.long k), .second, .val (.long g), .second, .val (.long (g * (own_inv (265 : Int64)))), .second, .val (.long (((g * (own_inv (265 : Int64))) ^^^ (((g * (own_inv (265 : Int64))).toUInt64 >>> ((24 : Int32) &&& 0x3f).toInt64.toUInt64).toInt64)) ^^^ (((g * (own_inv (265 : Int64))).toUInt64 >>> ((48 : Int32) &&& 0x3f).toInt64.toUInt64).toInt64))), .second, .val (.long (own_inv (2097151 : Int64))), .second]) rfl kt) ?_
    show Go p e below _ (T3.setTop (mkF m 43 #[.val (.long k), .second, .val (.long g), .second, .val (.long (g * (own_inv (265 : Int64)))), .second, .val (.long (((g * (own_inv (265 : Int64))) ^^^ (((g * (own_inv (265 : Int64))).toUInt64 >>> ((24 : Int32) &&& 0x3f).toInt64.toUInt64).toInt64)) ^^^ (((g * (own_inv (265 : Int64))).toUInt64 >>> ((48 : Int32) &&& 0x3f).toInt64.toUInt64).toInt64))), .second, .val (.long (own_inv (2097151 : Int64))), .second] []))
    refine Go.st (fun _ kt => XS.lload X3.here hx rfl (hb hby d4_43) rfl kt) ?_
    show Go p e below _ (T3.setTop (mkF m 45 #[.val (.long k), .second, .val (.long g), .second, .val (.long (g * (own_inv (265 : Int64)))), .second, .val (.long (((g * (own_inv (265 : Int64))) ^^^ (((g * (own_inv (265 : Int64))).toUInt64 >>> ((24 : Int32) &&& 0x3f).toInt64.toUInt64).toInt64)) ^^^ (((g * (own_inv (265 : Int64))).toUInt64 >>> ((48 : Int32) &&& 0x3f).toInt64.toUInt64).toInt64))), .second, .val (.long (own_inv (2097151 : Int64))), .second] [(.long (((g * (own_inv (265 : Int64))) ^^^ (((g * (own_inv (265 : Int64))).toUInt64 >>> ((24 : Int32) &&& 0x3f).toInt64.toUInt64).toInt64)) ^^^ (((g * (own_inv (265 : Int64))).toUInt64 >>> ((48 : Int32) &&& 0x3f).toInt64.toUInt64).toInt64)))]))
    refine Go.st (fun _ kt => XS.lconst X3.here hx rfl (hb hby d4_45) kt) ?_
    show Go p e below _ (T3.setTop (mkF m 46 #[.val (.long k), .second, .val (.long g), .second, .val (.long (g * (own_inv (265 : Int64)))), .second, .val (.long (((g * (own_inv (265 : Int64))) ^^^ (((g * (own_inv (265 : Int64))).toUInt64 >>> ((24 : Int32) &&& 0x3f).toInt64.toUInt64).toInt64)) ^^^ (((g * (own_inv (265 : Int64))).toUInt64 >>> ((48 : Int32) &&& 0x3f).toInt64.toUInt64).toInt64))), .second, .val (.long (own_inv (2097151 : Int64))), .second] [(.long (1 : Int64)), (.long (((g * (own_inv (265 : Int64))) ^^^ (((g * (own_inv (265 : Int64))).toUInt64 >>> ((24 : Int32) &&& 0x3f).toInt64.toUInt64).toInt64)) ^^^ (((g * (own_inv (265 : Int64))).toUInt64 >>> ((48 : Int32) &&& 0x3f).toInt64.toUInt64).toInt64)))]))
    refine Go.st (fun _ kt => XS.ladd X3.here hx rfl (hb hby d4_46) rfl kt) ?_
    show Go p e below _ (T3.setTop (mkF m 47 #[.val (.long k), .second, .val (.long g), .second, .val (.long (g * (own_inv (265 : Int64)))), .second, .val (.long (((g * (own_inv (265 : Int64))) ^^^ (((g * (own_inv (265 : Int64))).toUInt64 >>> ((24 : Int32) &&& 0x3f).toInt64.toUInt64).toInt64)) ^^^ (((g * (own_inv (265 : Int64))).toUInt64 >>> ((48 : Int32) &&& 0x3f).toInt64.toUInt64).toInt64))), .second, .val (.long (own_inv (2097151 : Int64))), .second] [(.long ((((g * (own_inv (265 : Int64))) ^^^ (((g * (own_inv (265 : Int64))).toUInt64 >>> ((24 : Int32) &&& 0x3f).toInt64.toUInt64).toInt64)) ^^^ (((g * (own_inv (265 : Int64))).toUInt64 >>> ((48 : Int32) &&& 0x3f).toInt64.toUInt64).toInt64)) + (1 : Int64)))]))
    refine Go.st (fun _ kt => XS.lload X3.here hx rfl (hb hby d4_47) rfl kt) ?_
    show Go p e below _ (T3.setTop (mkF m 49 #[.val (.long k), .second, .val (.long g), .second, .val (.long (g * (own_inv (265 : Int64)))), .second, .val (.long (((g * (own_inv (265 : Int64))) ^^^ (((g * (own_inv (265 : Int64))).toUInt64 >>> ((24 : Int32) &&& 0x3f).toInt64.toUInt64).toInt64)) ^^^ (((g * (own_inv (265 : Int64))).toUInt64 >>> ((48 : Int32) &&& 0x3f).toInt64.toUInt64).toInt64))), .second, .val (.long (own_inv (2097151 : Int64))), .second] [(.long (own_inv (2097151 : Int64))), (.long ((((g * (own_inv (265 : Int64))) ^^^ (((g * (own_inv (265 : Int64))).toUInt64 >>> ((24 : Int32) &&& 0x3f).toInt64.toUInt64).toInt64)) ^^^ (((g * (own_inv (265 : Int64))).toUInt64 >>> ((48 : Int32) &&& 0x3f).toInt64.toUInt64).toInt64)) + (1 : Int64)))]))
    refine Go.st (fun _ kt => XS.lmul X3.here hx rfl (hb hby d4_49) rfl kt) ?_
    show Go p e below _ (T3.setTop (mkF m 50 #[.val (.long k), .second, .val (.long g), .second, .val (.long (g * (own_inv (265 : Int64)))), .second, .val (.long (((g * (own_inv (265 : Int64))) ^^^ (((g * (own_inv (265 : Int64))).toUInt64 >>> ((24 : Int32) &&& 0x3f).toInt64.toUInt64).toInt64)) ^^^ (((g * (own_inv (265 : Int64))).toUInt64 >>> ((48 : Int32) &&& 0x3f).toInt64.toUInt64).toInt64))), .second, .val (.long (own_inv (2097151 : Int64))), .second] [(.long (((((g * (own_inv (265 : Int64))) ^^^ (((g * (own_inv (265 : Int64))).toUInt64 >>> ((24 : Int32) &&& 0x3f).toInt64.toUInt64).toInt64)) ^^^ (((g * (own_inv (265 : Int64))).toUInt64 >>> ((48 : Int32) &&& 0x3f).toInt64.toUInt64).toInt64)) + (1 : Int64)) * (own_inv (2097151 : Int64))))]))
    refine Go.st (fun _ kt => XS.lloadN X3.here hx rfl (hb hby d4_50) rfl kt) ?_
    show Go p e below _ (T3.setTop (mkF m 51 #[.val (.long k), .second, .val (.long g), .second, .val (.long (g * (own_inv (265 : Int64)))), .second, .val (.long (((g * (own_inv (265 : Int64))) ^^^ (((g * (own_inv (265 : Int64))).toUInt64 >>> ((24 : Int32) &&& 0x3f).toInt64.toUInt64).toInt64)) ^^^ (((g * (own_inv (265 : Int64))).toUInt64 >>> ((48 : Int32) &&& 0x3f).toInt64.toUInt64).toInt64))), .second, .val (.long (own_inv (2097151 : Int64))), .second] [(.long k), (.long (((((g * (own_inv (265 : Int64))) ^^^ (((g * (own_inv (265 : Int64))).toUInt64 >>> ((24 : Int32) &&& 0x3f).toInt64.toUInt64).toInt64)) ^^^ (((g * (own_inv (265 : Int64))).toUInt64 >>> ((48 : Int32) &&& 0x3f).toInt64.toUInt64).toInt64)) + (1 : Int64)) * (own_inv (2097151 : Int64))))]))
    refine Go.st (fun _ kt => XS.lcmp X3.here hx rfl (hb hby d4_51) rfl kt) ?_
    show Go p e below _ (T3.setTop (mkF m 52 #[.val (.long k), .second, .val (.long g), .second, .val (.long (g * (own_inv (265 : Int64)))), .second, .val (.long (((g * (own_inv (265 : Int64))) ^^^ (((g * (own_inv (265 : Int64))).toUInt64 >>> ((24 : Int32) &&& 0x3f).toInt64.toUInt64).toInt64)) ^^^ (((g * (own_inv (265 : Int64))).toUInt64 >>> ((48 : Int32) &&& 0x3f).toInt64.toUInt64).toInt64))), .second, .val (.long (own_inv (2097151 : Int64))), .second] [(.int (lcmpW (((((g * (own_inv (265 : Int64))) ^^^ (((g * (own_inv (265 : Int64))).toUInt64 >>> ((24 : Int32) &&& 0x3f).toInt64.toUInt64).toInt64)) ^^^ (((g * (own_inv (265 : Int64))).toUInt64 >>> ((48 : Int32) &&& 0x3f).toInt64.toUInt64).toInt64)) + (1 : Int64)) * (own_inv (2097151 : Int64))) k))]))
    by_cases hc52_4 : (lcmpW (((((g * (own_inv (265 : Int64))) ^^^ (((g * (own_inv (265 : Int64))).toUInt64 >>> ((24 : Int32) &&& 0x3f).toInt64.toUInt64).toInt64)) ^^^ (((g * (own_inv (265 : Int64))).toUInt64 >>> ((48 : Int32) &&& 0x3f).toInt64.toUInt64).toInt64)) + (1 : Int64)) * (own_inv (2097151 : Int64))) k) = (0 : Int32)
    · refine Go.st (fun _ kt => XS.ifYes X3.here hx rfl (pc0 := 52) (pc' := 71) rfl (hb hby d4_52) rfl ((if0 _ _).trans (teq hc52_4).1) (by decide) (by decide) kt) ?_
      show Go p e below _ (T3.setTop (mkF m 71 #[.val (.long k), .second, .val (.long g), .second, .val (.long (g * (own_inv (265 : Int64)))), .second, .val (.long (((g * (own_inv (265 : Int64))) ^^^ (((g * (own_inv (265 : Int64))).toUInt64 >>> ((24 : Int32) &&& 0x3f).toInt64.toUInt64).toInt64)) ^^^ (((g * (own_inv (265 : Int64))).toUInt64 >>> ((48 : Int32) &&& 0x3f).toInt64.toUInt64).toInt64))), .second, .val (.long (own_inv (2097151 : Int64))), .second] []))
      refine Go.st (fun _ kt => XS.iconst X3.here hx rfl (hb hby d4_71) kt) ?_
      show Go p e below _ (T3.setTop (mkF m 72 #[.val (.long k), .second, .val (.long g), .second, .val (.long (g * (own_inv (265 : Int64)))), .second, .val (.long (((g * (own_inv (265 : Int64))) ^^^ (((g * (own_inv (265 : Int64))).toUInt64 >>> ((24 : Int32) &&& 0x3f).toInt64.toUInt64).toInt64)) ^^^ (((g * (own_inv (265 : Int64))).toUInt64 >>> ((48 : Int32) &&& 0x3f).toInt64.toUInt64).toInt64))), .second, .val (.long (own_inv (2097151 : Int64))), .second] [(.int (1 : Int32))]))
      refine Go.st (fun _ kt => XS.goto X3.here hx rfl (pc0 := 72) (pc' := 76) rfl (hb hby d4_72) (by decide) (by decide) kt) ?_
      show Go p e below _ (T3.setTop (mkF m 76 #[.val (.long k), .second, .val (.long g), .second, .val (.long (g * (own_inv (265 : Int64)))), .second, .val (.long (((g * (own_inv (265 : Int64))) ^^^ (((g * (own_inv (265 : Int64))).toUInt64 >>> ((24 : Int32) &&& 0x3f).toInt64.toUInt64).toInt64)) ^^^ (((g * (own_inv (265 : Int64))).toUInt64 >>> ((48 : Int32) &&& 0x3f).toInt64.toUInt64).toInt64))), .second, .val (.long (own_inv (2097151 : Int64))), .second] [(.int (1 : Int32))]))
      refine Go.retN X3 hx (t := .boolean) Bd.returns (by simp) (BodyLoose.notSynchronized Bd) (hb hby d4_76) (Q := (Q_rm4 Z k g h0 n0)) (by decide) (by decide) ?_
      show (Q_rm4 Z k g h0 n0) _ T3.heap _
      rw [e3]
      exact ⟨(1 : Int32), rfl, by simp only [own_B, own_P3, own_P5, lw_lt, lw_eq, own_q, own_c, own_p, own_su] at *; simp_all, N3, rfl⟩
    · refine Go.st (fun _ kt => XS.ifNo X3.here hx rfl (hb hby d4_52) rfl ((if0 _ _).trans (feq hc52_4).1) kt) ?_
      show Go p e below _ (T3.setTop (mkF m 55 #[.val (.long k), .second, .val (.long g), .second, .val (.long (g * (own_inv (265 : Int64)))), .second, .val (.long (((g * (own_inv (265 : Int64))) ^^^ (((g * (own_inv (265 : Int64))).toUInt64 >>> ((24 : Int32) &&& 0x3f).toInt64.toUInt64).toInt64)) ^^^ (((g * (own_inv (265 : Int64))).toUInt64 >>> ((48 : Int32) &&& 0x3f).toInt64.toUInt64).toInt64))), .second, .val (.long (own_inv (2097151 : Int64))), .second] []))
      refine Go.st (fun _ kt => XS.lload X3.here hx rfl (hb hby d4_55) rfl kt) ?_
      show Go p e below _ (T3.setTop (mkF m 57 #[.val (.long k), .second, .val (.long g), .second, .val (.long (g * (own_inv (265 : Int64)))), .second, .val (.long (((g * (own_inv (265 : Int64))) ^^^ (((g * (own_inv (265 : Int64))).toUInt64 >>> ((24 : Int32) &&& 0x3f).toInt64.toUInt64).toInt64)) ^^^ (((g * (own_inv (265 : Int64))).toUInt64 >>> ((48 : Int32) &&& 0x3f).toInt64.toUInt64).toInt64))), .second, .val (.long (own_inv (2097151 : Int64))), .second] [(.long (((g * (own_inv (265 : Int64))) ^^^ (((g * (own_inv (265 : Int64))).toUInt64 >>> ((24 : Int32) &&& 0x3f).toInt64.toUInt64).toInt64)) ^^^ (((g * (own_inv (265 : Int64))).toUInt64 >>> ((48 : Int32) &&& 0x3f).toInt64.toUInt64).toInt64)))]))
      refine Go.st (fun _ kt => X3.ldc2Long hx hown (mvT hZ (hw _ (List.mem_of_getElem? (i := 20) rfl))) (g := (mkF m 57 #[.val (.long k), .second, .val (.long g), .second, .val (.long (g * (own_inv (265 : Int64)))), .second, .val (.long (((g * (own_inv (265 : Int64))) ^^^ (((g * (own_inv (265 : Int64))).toUInt64 >>> ((24 : Int32) &&& 0x3f).toInt64.toUInt64).toInt64)) ^^^ (((g * (own_inv (265 : Int64))).toUInt64 >>> ((48 : Int32) &&& 0x3f).toInt64.toUInt64).toInt64))), .second, .val (.long (own_inv (2097151 : Int64))), .second] [(.long (((g * (own_inv (265 : Int64))) ^^^ (((g * (own_inv (265 : Int64))).toUInt64 >>> ((24 : Int32) &&& 0x3f).toInt64.toUInt64).toInt64)) ^^^ (((g * (own_inv (265 : Int64))).toUInt64 >>> ((48 : Int32) &&& 0x3f).toInt64.toUInt64).toInt64)))])) rfl (hb hby d4_57) _ kt) ?_
      show Go p e below _ (T3.setTop (mkF m 60 #[.val (.long k), .second, .val (.long g), .second, .val (.long (g * (own_inv (265 : Int64)))), .second, .val (.long (((g * (own_inv (265 : Int64))) ^^^ (((g * (own_inv (265 : Int64))).toUInt64 >>> ((24 : Int32) &&& 0x3f).toInt64.toUInt64).toInt64)) ^^^ (((g * (own_inv (265 : Int64))).toUInt64 >>> ((48 : Int32) &&& 0x3f).toInt64.toUInt64).toInt64))), .second, .val (.long (own_inv (2097151 : Int64))), .second] [(.long (-1 : Int64)), (.long (((g * (own_inv (265 : Int64))) ^^^ (((g * (own_inv (265 : Int64))).toUInt64 >>> ((24 : Int32) &&& 0x3f).toInt64.toUInt64).toInt64)) ^^^ (((g * (own_inv (265 : Int64))).toUInt64 >>> ((48 : Int32) &&& 0x3f).toInt64.toUInt64).toInt64)))]))
      refine Go.st (fun _ kt => XS.lxor X3.here hx rfl (hb hby d4_60) rfl kt) ?_
      show Go p e below _ (T3.setTop (mkF m 61 #[.val (.long k), .second, .val (.long g), .second, .val (.long (g * (own_inv (265 : Int64)))), .second, .val (.long (((g * (own_inv (265 : Int64))) ^^^ (((g * (own_inv (265 : Int64))).toUInt64 >>> ((24 : Int32) &&& 0x3f).toInt64.toUInt64).toInt64)) ^^^ (((g * (own_inv (265 : Int64))).toUInt64 >>> ((48 : Int32) &&& 0x3f).toInt64.toUInt64).toInt64))), .second, .val (.long (own_inv (2097151 : Int64))), .second] [(.long ((((g * (own_inv (265 : Int64))) ^^^ (((g * (own_inv (265 : Int64))).toUInt64 >>> ((24 : Int32) &&& 0x3f).toInt64.toUInt64).toInt64)) ^^^ (((g * (own_inv (265 : Int64))).toUInt64 >>> ((48 : Int32) &&& 0x3f).toInt64.toUInt64).toInt64)) ^^^ (-1 : Int64)))]))
      refine Go.st (fun _ kt => XS.lconst X3.here hx rfl (hb hby d4_61) kt) ?_
      show Go p e below _ (T3.setTop (mkF m 62 #[.val (.long k), .second, .val (.long g), .second, .val (.long (g * (own_inv (265 : Int64)))), .second, .val (.long (((g * (own_inv (265 : Int64))) ^^^ (((g * (own_inv (265 : Int64))).toUInt64 >>> ((24 : Int32) &&& 0x3f).toInt64.toUInt64).toInt64)) ^^^ (((g * (own_inv (265 : Int64))).toUInt64 >>> ((48 : Int32) &&& 0x3f).toInt64.toUInt64).toInt64))), .second, .val (.long (own_inv (2097151 : Int64))), .second] [(.long (1 : Int64)), (.long ((((g * (own_inv (265 : Int64))) ^^^ (((g * (own_inv (265 : Int64))).toUInt64 >>> ((24 : Int32) &&& 0x3f).toInt64.toUInt64).toInt64)) ^^^ (((g * (own_inv (265 : Int64))).toUInt64 >>> ((48 : Int32) &&& 0x3f).toInt64.toUInt64).toInt64)) ^^^ (-1 : Int64)))]))
      refine Go.st (fun _ kt => XS.ladd X3.here hx rfl (hb hby d4_62) rfl kt) ?_
      show Go p e below _ (T3.setTop (mkF m 63 #[.val (.long k), .second, .val (.long g), .second, .val (.long (g * (own_inv (265 : Int64)))), .second, .val (.long (((g * (own_inv (265 : Int64))) ^^^ (((g * (own_inv (265 : Int64))).toUInt64 >>> ((24 : Int32) &&& 0x3f).toInt64.toUInt64).toInt64)) ^^^ (((g * (own_inv (265 : Int64))).toUInt64 >>> ((48 : Int32) &&& 0x3f).toInt64.toUInt64).toInt64))), .second, .val (.long (own_inv (2097151 : Int64))), .second] [(.long (((((g * (own_inv (265 : Int64))) ^^^ (((g * (own_inv (265 : Int64))).toUInt64 >>> ((24 : Int32) &&& 0x3f).toInt64.toUInt64).toInt64)) ^^^ (((g * (own_inv (265 : Int64))).toUInt64 >>> ((48 : Int32) &&& 0x3f).toInt64.toUInt64).toInt64)) ^^^ (-1 : Int64)) + (1 : Int64)))]))
      refine Go.st (fun _ kt => XS.lload X3.here hx rfl (hb hby d4_63) rfl kt) ?_
      show Go p e below _ (T3.setTop (mkF m 65 #[.val (.long k), .second, .val (.long g), .second, .val (.long (g * (own_inv (265 : Int64)))), .second, .val (.long (((g * (own_inv (265 : Int64))) ^^^ (((g * (own_inv (265 : Int64))).toUInt64 >>> ((24 : Int32) &&& 0x3f).toInt64.toUInt64).toInt64)) ^^^ (((g * (own_inv (265 : Int64))).toUInt64 >>> ((48 : Int32) &&& 0x3f).toInt64.toUInt64).toInt64))), .second, .val (.long (own_inv (2097151 : Int64))), .second] [(.long (own_inv (2097151 : Int64))), (.long (((((g * (own_inv (265 : Int64))) ^^^ (((g * (own_inv (265 : Int64))).toUInt64 >>> ((24 : Int32) &&& 0x3f).toInt64.toUInt64).toInt64)) ^^^ (((g * (own_inv (265 : Int64))).toUInt64 >>> ((48 : Int32) &&& 0x3f).toInt64.toUInt64).toInt64)) ^^^ (-1 : Int64)) + (1 : Int64)))]))
      refine Go.st (fun _ kt => XS.lmul X3.here hx rfl (hb hby d4_65) rfl kt) ?_
      show Go p e below _ (T3.setTop (mkF m 66 #[.val (.long k), .second, .val (.long g), .second, .val (.long (g * (own_inv (265 : Int64)))), .second, .val (.long (((g * (own_inv (265 : Int64))) ^^^ (((g * (own_inv (265 : Int64))).toUInt64 >>> ((24 : Int32) &&& 0x3f).toInt64.toUInt64).toInt64)) ^^^ (((g * (own_inv (265 : Int64))).toUInt64 >>> ((48 : Int32) &&& 0x3f).toInt64.toUInt64).toInt64))), .second, .val (.long (own_inv (2097151 : Int64))), .second] [(.long ((((((g * (own_inv (265 : Int64))) ^^^ (((g * (own_inv (265 : Int64))).toUInt64 >>> ((24 : Int32) &&& 0x3f).toInt64.toUInt64).toInt64)) ^^^ (((g * (own_inv (265 : Int64))).toUInt64 >>> ((48 : Int32) &&& 0x3f).toInt64.toUInt64).toInt64)) ^^^ (-1 : Int64)) + (1 : Int64)) * (own_inv (2097151 : Int64))))]))
      refine Go.st (fun _ kt => XS.lloadN X3.here hx rfl (hb hby d4_66) rfl kt) ?_
      show Go p e below _ (T3.setTop (mkF m 67 #[.val (.long k), .second, .val (.long g), .second, .val (.long (g * (own_inv (265 : Int64)))), .second, .val (.long (((g * (own_inv (265 : Int64))) ^^^ (((g * (own_inv (265 : Int64))).toUInt64 >>> ((24 : Int32) &&& 0x3f).toInt64.toUInt64).toInt64)) ^^^ (((g * (own_inv (265 : Int64))).toUInt64 >>> ((48 : Int32) &&& 0x3f).toInt64.toUInt64).toInt64))), .second, .val (.long (own_inv (2097151 : Int64))), .second] [(.long k), (.long ((((((g * (own_inv (265 : Int64))) ^^^ (((g * (own_inv (265 : Int64))).toUInt64 >>> ((24 : Int32) &&& 0x3f).toInt64.toUInt64).toInt64)) ^^^ (((g * (own_inv (265 : Int64))).toUInt64 >>> ((48 : Int32) &&& 0x3f).toInt64.toUInt64).toInt64)) ^^^ (-1 : Int64)) + (1 : Int64)) * (own_inv (2097151 : Int64))))]))
      refine Go.st (fun _ kt => XS.lcmp X3.here hx rfl (hb hby d4_67) rfl kt) ?_
      show Go p e below _ (T3.setTop (mkF m 68 #[.val (.long k), .second, .val (.long g), .second, .val (.long (g * (own_inv (265 : Int64)))), .second, .val (.long (((g * (own_inv (265 : Int64))) ^^^ (((g * (own_inv (265 : Int64))).toUInt64 >>> ((24 : Int32) &&& 0x3f).toInt64.toUInt64).toInt64)) ^^^ (((g * (own_inv (265 : Int64))).toUInt64 >>> ((48 : Int32) &&& 0x3f).toInt64.toUInt64).toInt64))), .second, .val (.long (own_inv (2097151 : Int64))), .second] [(.int (lcmpW ((((((g * (own_inv (265 : Int64))) ^^^ (((g * (own_inv (265 : Int64))).toUInt64 >>> ((24 : Int32) &&& 0x3f).toInt64.toUInt64).toInt64)) ^^^ (((g * (own_inv (265 : Int64))).toUInt64 >>> ((48 : Int32) &&& 0x3f).toInt64.toUInt64).toInt64)) ^^^ (-1 : Int64)) + (1 : Int64)) * (own_inv (2097151 : Int64))) k))]))
      by_cases hc68_5 : (lcmpW ((((((g * (own_inv (265 : Int64))) ^^^ (((g * (own_inv (265 : Int64))).toUInt64 >>> ((24 : Int32) &&& 0x3f).toInt64.toUInt64).toInt64)) ^^^ (((g * (own_inv (265 : Int64))).toUInt64 >>> ((48 : Int32) &&& 0x3f).toInt64.toUInt64).toInt64)) ^^^ (-1 : Int64)) + (1 : Int64)) * (own_inv (2097151 : Int64))) k) = (0 : Int32)
      · refine Go.st (fun _ kt => XS.ifNo X3.here hx rfl (hb hby d4_68) rfl ((if0 _ _).trans (teq hc68_5).2) kt) ?_
        show Go p e below _ (T3.setTop (mkF m 71 #[.val (.long k), .second, .val (.long g), .second, .val (.long (g * (own_inv (265 : Int64)))), .second, .val (.long (((g * (own_inv (265 : Int64))) ^^^ (((g * (own_inv (265 : Int64))).toUInt64 >>> ((24 : Int32) &&& 0x3f).toInt64.toUInt64).toInt64)) ^^^ (((g * (own_inv (265 : Int64))).toUInt64 >>> ((48 : Int32) &&& 0x3f).toInt64.toUInt64).toInt64))), .second, .val (.long (own_inv (2097151 : Int64))), .second] []))
        refine Go.st (fun _ kt => XS.iconst X3.here hx rfl (hb hby d4_71) kt) ?_
        show Go p e below _ (T3.setTop (mkF m 72 #[.val (.long k), .second, .val (.long g), .second, .val (.long (g * (own_inv (265 : Int64)))), .second, .val (.long (((g * (own_inv (265 : Int64))) ^^^ (((g * (own_inv (265 : Int64))).toUInt64 >>> ((24 : Int32) &&& 0x3f).toInt64.toUInt64).toInt64)) ^^^ (((g * (own_inv (265 : Int64))).toUInt64 >>> ((48 : Int32) &&& 0x3f).toInt64.toUInt64).toInt64))), .second, .val (.long (own_inv (2097151 : Int64))), .second] [(.int (1 : Int32))]))
        refine Go.st (fun _ kt => XS.goto X3.here hx rfl (pc0 := 72) (pc' := 76) rfl (hb hby d4_72) (by decide) (by decide) kt) ?_
        show Go p e below _ (T3.setTop (mkF m 76 #[.val (.long k), .second, .val (.long g), .second, .val (.long (g * (own_inv (265 : Int64)))), .second, .val (.long (((g * (own_inv (265 : Int64))) ^^^ (((g * (own_inv (265 : Int64))).toUInt64 >>> ((24 : Int32) &&& 0x3f).toInt64.toUInt64).toInt64)) ^^^ (((g * (own_inv (265 : Int64))).toUInt64 >>> ((48 : Int32) &&& 0x3f).toInt64.toUInt64).toInt64))), .second, .val (.long (own_inv (2097151 : Int64))), .second] [(.int (1 : Int32))]))
        refine Go.retN X3 hx (t := .boolean) Bd.returns (by simp) (BodyLoose.notSynchronized Bd) (hb hby d4_76) (Q := (Q_rm4 Z k g h0 n0)) (by decide) (by decide) ?_
        show (Q_rm4 Z k g h0 n0) _ T3.heap _
        rw [e3]
        exact ⟨(1 : Int32), rfl, by simp only [own_B, own_P3, own_P5, lw_lt, lw_eq, own_q, own_c, own_p, own_su] at *; simp_all, N3, rfl⟩
      · refine Go.st (fun _ kt => XS.ifYes X3.here hx rfl (pc0 := 68) (pc' := 75) rfl (hb hby d4_68) rfl ((if0 _ _).trans (feq hc68_5).2) (by decide) (by decide) kt) ?_
        show Go p e below _ (T3.setTop (mkF m 75 #[.val (.long k), .second, .val (.long g), .second, .val (.long (g * (own_inv (265 : Int64)))), .second, .val (.long (((g * (own_inv (265 : Int64))) ^^^ (((g * (own_inv (265 : Int64))).toUInt64 >>> ((24 : Int32) &&& 0x3f).toInt64.toUInt64).toInt64)) ^^^ (((g * (own_inv (265 : Int64))).toUInt64 >>> ((48 : Int32) &&& 0x3f).toInt64.toUInt64).toInt64))), .second, .val (.long (own_inv (2097151 : Int64))), .second] []))
        refine Go.st (fun _ kt => XS.iconst X3.here hx rfl (hb hby d4_75) kt) ?_
        show Go p e below _ (T3.setTop (mkF m 76 #[.val (.long k), .second, .val (.long g), .second, .val (.long (g * (own_inv (265 : Int64)))), .second, .val (.long (((g * (own_inv (265 : Int64))) ^^^ (((g * (own_inv (265 : Int64))).toUInt64 >>> ((24 : Int32) &&& 0x3f).toInt64.toUInt64).toInt64)) ^^^ (((g * (own_inv (265 : Int64))).toUInt64 >>> ((48 : Int32) &&& 0x3f).toInt64.toUInt64).toInt64))), .second, .val (.long (own_inv (2097151 : Int64))), .second] [(.int (0 : Int32))]))
        refine Go.retN X3 hx (t := .boolean) Bd.returns (by simp) (BodyLoose.notSynchronized Bd) (hb hby d4_76) (Q := (Q_rm4 Z k g h0 n0)) (by decide) (by decide) ?_
        show (Q_rm4 Z k g h0 n0) _ T3.heap _
        rw [e3]
        exact ⟨(0 : Int32), rfl, by simp only [own_B, own_P3, own_P5, lw_lt, lw_eq, own_q, own_c, own_p, own_su] at *; simp_all, N3, rfl⟩
theorem own_pd3 : parseMethodDescriptor "(JJ)Z" = some ⟨[.long, .long], some .boolean⟩ := by decide +kernel
theorem d3_0 : decode method_3_code 0 = .ok (.lload_n 2, 1) := by decide +kernel
theorem d3_1 : decode method_3_code 1 = .ok (.ldc2_w 26, 3) := by decide +kernel
theorem d3_4 : decode method_3_code 4 = .ok (.invokestatic 15, 3) := by decide +kernel
theorem d3_7 : decode method_3_code 7 = .ok (.lmul, 1) := by decide +kernel
theorem d3_8 : decode method_3_code 8 = .ok (.lstore 4, 2) := by decide +kernel
theorem d3_10 : decode method_3_code 10 = .ok (.lload 4, 2) := by decide +kernel
theorem d3_12 : decode method_3_code 12 = .ok (.lconst 0, 1) := by decide +kernel
theorem d3_13 : decode method_3_code 13 = .ok (.lcmp, 1) := by decide +kernel
theorem d3_14 : decode method_3_code 14 = .ok (.ifCond .ge 5, 3) := by decide +kernel
theorem d3_17 : decode method_3_code 17 = .ok (.iconst 0, 1) := by decide +kernel
theorem d3_18 : decode method_3_code 18 = .ok (.ireturn, 1) := by decide +kernel
theorem d3_19 : decode method_3_code 19 = .ok (.lload 4, 2) := by decide +kernel
theorem d3_21 : decode method_3_code 21 = .ok (.lload 4, 2) := by decide +kernel
theorem d3_23 : decode method_3_code 23 = .ok (.bipush 14, 2) := by decide +kernel
theorem d3_25 : decode method_3_code 25 = .ok (.lushr, 1) := by decide +kernel
theorem d3_26 : decode method_3_code 26 = .ok (.lxor, 1) := by decide +kernel
theorem d3_27 : decode method_3_code 27 = .ok (.lload 4, 2) := by decide +kernel
theorem d3_29 : decode method_3_code 29 = .ok (.bipush 28, 2) := by decide +kernel
theorem d3_31 : decode method_3_code 31 = .ok (.lushr, 1) := by decide +kernel
theorem d3_32 : decode method_3_code 32 = .ok (.lxor, 1) := by decide +kernel
theorem d3_33 : decode method_3_code 33 = .ok (.lload 4, 2) := by decide +kernel
theorem d3_35 : decode method_3_code 35 = .ok (.bipush 42, 2) := by decide +kernel
theorem d3_37 : decode method_3_code 37 = .ok (.lushr, 1) := by decide +kernel
theorem d3_38 : decode method_3_code 38 = .ok (.lxor, 1) := by decide +kernel
theorem d3_39 : decode method_3_code 39 = .ok (.lload 4, 2) := by decide +kernel
theorem d3_41 : decode method_3_code 41 = .ok (.bipush 56, 2) := by decide +kernel
theorem d3_43 : decode method_3_code 43 = .ok (.lushr, 1) := by decide +kernel
theorem d3_44 : decode method_3_code 44 = .ok (.lxor, 1) := by decide +kernel
theorem d3_45 : decode method_3_code 45 = .ok (.lstore 6, 2) := by decide +kernel
theorem d3_47 : decode method_3_code 47 = .ok (.lload_n 0, 1) := by decide +kernel
theorem d3_48 : decode method_3_code 48 = .ok (.lload 6, 2) := by decide +kernel
theorem d3_50 : decode method_3_code 50 = .ok (.invokestatic 28, 3) := by decide +kernel
theorem d3_53 : decode method_3_code 53 = .ok (.ifCond .ne 16, 3) := by decide +kernel
theorem d3_56 : decode method_3_code 56 = .ok (.lload_n 0, 1) := by decide +kernel
theorem d3_57 : decode method_3_code 57 = .ok (.lload 6, 2) := by decide +kernel
theorem d3_59 : decode method_3_code 59 = .ok (.ldc2_w 24, 3) := by decide +kernel
theorem d3_62 : decode method_3_code 62 = .ok (.lxor, 1) := by decide +kernel
theorem d3_63 : decode method_3_code 63 = .ok (.invokestatic 28, 3) := by decide +kernel
theorem d3_66 : decode method_3_code 66 = .ok (.ifCond .eq 7, 3) := by decide +kernel
theorem d3_69 : decode method_3_code 69 = .ok (.iconst 1, 1) := by decide +kernel
theorem d3_70 : decode method_3_code 70 = .ok (.goto 4, 3) := by decide +kernel
theorem d3_73 : decode method_3_code 73 = .ok (.iconst 0, 1) := by decide +kernel
theorem d3_74 : decode method_3_code 74 = .ok (.ireturn, 1) := by decide +kernel
def Q_rm3 (Z : State) (k : Int64) (g : Int64) (h0 : Heap) (n0 : Nat) (v : Option Value) (h : Heap) (L : List Loc) : Prop := ∃ z, v = some (.int z) ∧ own_B (own_P5 k g) z ∧ Fr n0 L ∧ h = h0
theorem ef_rm3 (m : MethodId) (k : Int64) (g : Int64) : entryFrame m #[(.long k), (.long g)] 8 = mkF m 0 #[.val (.long k), .second, .val (.long g), .second, .unset, .unset, .unset, .unset] [] := by first | (simp [entryFrame, mkF, argsToLocals, Value.category]; done) | rfl
set_option maxRecDepth 65536 in
set_option maxHeartbeats 40000000 in
theorem rm3 (l : Launch) (Z : State) (a0 : Array Value) (hw : ∀ d ∈ tables_1, d.before a0 Z = true) (ws : List Jvm.Cond) (k : Int64) (g : Int64) (h0 : Heap) (n0 : Nat) (Z0 : n0 ≤ h0.size) :
    MetFree l (⟨"com/example/rowsieve/rowsieve/kind/bloom/ValueHashMixPinLaw", "fromH5", "(JJ)Z"⟩ : MethodName) (head1 (Jvm.Cond.code (⟨"com/example/rowsieve/rowsieve/kind/bloom/ValueHashMixPinLaw", "fromH5", "(JJ)Z"⟩ : MethodName) method_3_code 8 (some .boolean) :: ws) ({ frames := 2, cells := 0, slots := 0, locals := 38 } : Room)) (fun a U => a = #[(.long k), (.long g)] ∧ Z.Warmed39 U.vm ∧ U.heap = h0) (fun _ _ _ _ _ => True) (fun _ U o U' => ∃ v L, o = .returned v ∧ (Q_rm3 Z k g h0 n0) v U'.heap L ∧ FrameEnd U o U' L ({ frames := 2, cells := 0, slots := 0, locals := 38 } : Room).cells ({ frames := 2, cells := 0, slots := 0, locals := 38 } : Room).slots) := by
  refine MetFree.of_bodySF (plainFor_of_name own_pn1) hisR ?_
  intro p e s m args below meth c s₁ Bd hml0 hP hK
  obtain ⟨rfl, hZ, hh⟩ := hP
  have hx := Bd.exec
  have hby := Bd.bytes
  have hml : c.maxLocals = 8 := hml0
  have hown : s.vm.findClass "com/example/rowsieve/rowsieve/kind/bloom/ValueHashMixPinLaw" = some m.cls := findClass_of_methodNamed Bd.named
  have hnm := (name_of_methodNamed Bd.named Bd.method).1
  have X0 : Stand p l e ({ frames := 2, cells := 0, slots := 0, locals := 38 } : Room) s m #[(.long k), (.long g)] below meth c s₁ [] 0 0 := Stand.of_body Bd
  have e0 : s₁.heap = h0 := by rw [← hh, Bd.state]; rfl
  have N0 := Fr.nil n0
  refine Go.st (G := fun s₂ o => ∃ v L, o = .returned v ∧ (Q_rm3 Z k g h0 n0) v s₂.heap L ∧ FrameEnd s o s₂ L ({ frames := 2, cells := 0, slots := 0, locals := 38 } : Room).cells ({ frames := 2, cells := 0, slots := 0, locals := 38 } : Room).slots) (fun t kt => castTop (ef_rm3 m k g) kt) ?_
  show Go p e below _ (s₁.setTop (mkF m 0 #[.val (.long k), .second, .val (.long g), .second, .unset, .unset, .unset, .unset] []))
  refine Go.st (fun _ kt => XS.lloadN X0.here hx rfl (hb hby d3_0) rfl kt) ?_
  show Go p e below _ (s₁.setTop (mkF m 1 #[.val (.long k), .second, .val (.long g), .second, .unset, .unset, .unset, .unset] [(.long g)]))
  refine Go.st (fun _ kt => X0.ldc2Long hx hown (mvT hZ (hw _ (List.mem_of_getElem? (i := 14) rfl))) (g := (mkF m 1 #[.val (.long k), .second, .val (.long g), .second, .unset, .unset, .unset, .unset] [(.long g)])) rfl (hb hby d3_1) _ kt) ?_
  show Go p e below _ (s₁.setTop (mkF m 4 #[.val (.long k), .second, .val (.long g), .second, .unset, .unset, .unset, .unset] [(.long (21 : Int64)), (.long g)]))
  obtain ⟨_, _, ⟨T1, L1, k1, n1⟩, -, X1, ⟨Lc1, hQ1, l1, y1, z1⟩, st1⟩ := Jvm.LawKit.callS X0 hx (y := (⟨"com/example/rowsieve/rowsieve/kind/bloom/ValueHashMixPinLaw", "inverse", "(J)J"⟩ : MethodName)) hown (mvT hZ (hw _ (List.mem_of_getElem? (i := 6) rfl))) (mvT hZ (hw _ (List.mem_of_getElem? (i := 7) rfl))) (mvT hZ (hw _ (List.mem_of_getElem? (i := 8) rfl))) (mvT hZ (hw _ (List.mem_of_getElem? (i := 9) rfl))) (by decide) (backOf (W := 2) (rm2 l Z a0 hw [] (21 : Int64) h0 n0 Z0) hZ (hw _ (List.mem_of_getElem? (i := 9) rfl)) (hw _ (List.mem_of_getElem? (i := 8) rfl)) (by decide) (by decide)) (g := (mkF m 4 #[.val (.long k), .second, .val (.long g), .second, .unset, .unset, .unset, .unset] [(.long (21 : Int64)), (.long g)])) rfl (by rw [hml]; rfl) (argsL := [(.long (21 : Int64))]) (rest := [(.long g)]) (lenOf own_pd2 rfl) rfl (by show 2 * 0 + _ ≤ _; exact Nat.le_of_eq rfl) (hb hby d3_4) (fun _ _ => ⟨rfl, e0, (by decide : 0 + 0 ≤ _), (by decide : 0 + 0 ≤ _)⟩)
  dsimp only [Pt.U, Pt.locs, Pt.cells, Pt.slots] at X1 l1 y1 z1 st1 hQ1
  subst l1 y1 z1
  obtain ⟨rfl, N1q, e1⟩ := hQ1
  have N1 := Fr.app N0 N1q
  refine Go.st st1 ?_
  show Go p e below _ (T1.setTop (mkF m 7 #[.val (.long k), .second, .val (.long g), .second, .unset, .unset, .unset, .unset] [(.long (own_inv (21 : Int64))), (.long g)]))
  refine Go.st (fun _ kt => XS.lmul X1.here hx rfl (hb hby d3_7) rfl kt) ?_
  show Go p e below _ (T1.setTop (mkF m 8 #[.val (.long k), .second, .val (.long g), .second, .unset, .unset, .unset, .unset] [(.long (g * (own_inv (21 : Int64))))]))
  refine Go.st (fun _ kt => XS.lstore X1.here hx rfl (hb hby d3_8) rfl (l' := #[.val (.long k), .second, .val (.long g), .second, .val (.long (g * (own_inv (21 : Int64)))), .second, .unset, .unset]) rfl kt) ?_
  show Go p e below _ (T1.setTop (mkF m 10 #[.val (.long k), .second, .val (.long g), .second, .val (.long (g * (own_inv (21 : Int64)))), .second, .unset, .unset] []))
  refine Go.st (fun _ kt => XS.lload X1.here hx rfl (hb hby d3_10) rfl kt) ?_
  show Go p e below _ (T1.setTop (mkF m 12 #[.val (.long k), .second, .val (.long g), .second, .val (.long (g * (own_inv (21 : Int64)))), .second, .unset, .unset] [(.long (g * (own_inv (21 : Int64))))]))
  refine Go.st (fun _ kt => XS.lconst X1.here hx rfl (hb hby d3_12) kt) ?_
  show Go p e below _ (T1.setTop (mkF m 13 #[.val (.long k), .second, .val (.long g), .second, .val (.long (g * (own_inv (21 : Int64)))), .second, .unset, .unset] [(.long (0 : Int64)), (.long (g * (own_inv (21 : Int64))))]))
  refine Go.st (fun _ kt => XS.lcmp X1.here hx rfl (hb hby d3_13) rfl kt) ?_
  show Go p e below _ (T1.setTop (mkF m 14 #[.val (.long k), .second, .val (.long g), .second, .val (.long (g * (own_inv (21 : Int64)))), .second, .unset, .unset] [(.int (lcmpW (g * (own_inv (21 : Int64))) (0 : Int64)))]))
  by_cases hc14_2 : (lcmpW (g * (own_inv (21 : Int64))) (0 : Int64)) < (0 : Int32)
  · refine Go.st (fun _ kt => XS.ifNo X1.here hx rfl (hb hby d3_14) rfl ((if0 _ _).trans (tlt hc14_2).2.1) kt) ?_
    show Go p e below _ (T1.setTop (mkF m 17 #[.val (.long k), .second, .val (.long g), .second, .val (.long (g * (own_inv (21 : Int64)))), .second, .unset, .unset] []))
    refine Go.st (fun _ kt => XS.iconst X1.here hx rfl (hb hby d3_17) kt) ?_
    show Go p e below _ (T1.setTop (mkF m 18 #[.val (.long k), .second, .val (.long g), .second, .val (.long (g * (own_inv (21 : Int64)))), .second, .unset, .unset] [(.int (0 : Int32))]))
    refine Go.retN X1 hx (t := .boolean) Bd.returns (by simp) (BodyLoose.notSynchronized Bd) (hb hby d3_18) (Q := (Q_rm3 Z k g h0 n0)) (by decide) (by decide) ?_
    show (Q_rm3 Z k g h0 n0) _ T1.heap _
    rw [e1]
    exact ⟨(0 : Int32), rfl, by simp only [own_B, own_P3, own_P5, lw_lt, lw_eq, own_q, own_c, own_p, own_su] at *; simp_all, N1, rfl⟩
  · refine Go.st (fun _ kt => XS.ifYes X1.here hx rfl (pc0 := 14) (pc' := 19) rfl (hb hby d3_14) rfl ((if0 _ _).trans (flt hc14_2).2.1) (by decide) (by decide) kt) ?_
    show Go p e below _ (T1.setTop (mkF m 19 #[.val (.long k), .second, .val (.long g), .second, .val (.long (g * (own_inv (21 : Int64)))), .second, .unset, .unset] []))
    refine Go.st (fun _ kt => XS.lload X1.here hx rfl (hb hby d3_19) rfl kt) ?_
    show Go p e below _ (T1.setTop (mkF m 21 #[.val (.long k), .second, .val (.long g), .second, .val (.long (g * (own_inv (21 : Int64)))), .second, .unset, .unset] [(.long (g * (own_inv (21 : Int64))))]))
    refine Go.st (fun _ kt => XS.lload X1.here hx rfl (hb hby d3_21) rfl kt) ?_
    show Go p e below _ (T1.setTop (mkF m 23 #[.val (.long k), .second, .val (.long g), .second, .val (.long (g * (own_inv (21 : Int64)))), .second, .unset, .unset] [(.long (g * (own_inv (21 : Int64)))), (.long (g * (own_inv (21 : Int64))))]))
    refine Go.st (fun _ kt => XS.bipush X1.here hx rfl (hb hby d3_23) kt) ?_
    show Go p e below _ (T1.setTop (mkF m 25 #[.val (.long k), .second, .val (.long g), .second, .val (.long (g * (own_inv (21 : Int64)))), .second, .unset, .unset] [(.int (14 : Int32)), (.long (g * (own_inv (21 : Int64)))), (.long (g * (own_inv (21 : Int64))))]))
    refine Go.st (fun _ kt => XS.lushr X1.here hx rfl (hb hby d3_25) rfl kt) ?_
    show Go p e below _ (T1.setTop (mkF m 26 #[.val (.long k), .second, .val (.long g), .second, .val (.long (g * (own_inv (21 : Int64)))), .second, .unset, .unset] [(.long (((g * (own_inv (21 : Int64))).toUInt64 >>> ((14 : Int32) &&& 0x3f).toInt64.toUInt64).toInt64)), (.long (g * (own_inv (21 : Int64))))]))
    refine Go.st (fun _ kt => XS.lxor X1.here hx rfl (hb hby d3_26) rfl kt) ?_
    show Go p e below _ (T1.setTop (mkF m 27 #[.val (.long k), .second, .val (.long g), .second, .val (.long (g * (own_inv (21 : Int64)))), .second, .unset, .unset] [(.long ((g * (own_inv (21 : Int64))) ^^^ (((g * (own_inv (21 : Int64))).toUInt64 >>> ((14 : Int32) &&& 0x3f).toInt64.toUInt64).toInt64)))]))
    refine Go.st (fun _ kt => XS.lload X1.here hx rfl (hb hby d3_27) rfl kt) ?_
    show Go p e below _ (T1.setTop (mkF m 29 #[.val (.long k), .second, .val (.long g), .second, .val (.long (g * (own_inv (21 : Int64)))), .second, .unset, .unset] [(.long (g * (own_inv (21 : Int64)))), (.long ((g * (own_inv (21 : Int64))) ^^^ (((g * (own_inv (21 : Int64))).toUInt64 >>> ((14 : Int32) &&& 0x3f).toInt64.toUInt64).toInt64)))]))
    refine Go.st (fun _ kt => XS.bipush X1.here hx rfl (hb hby d3_29) kt) ?_
    show Go p e below _ (T1.setTop (mkF m 31 #[.val (.long k), .second, .val (.long g), .second, .val (.long (g * (own_inv (21 : Int64)))), .second, .unset, .unset] [(.int (28 : Int32)), (.long (g * (own_inv (21 : Int64)))), (.long ((g * (own_inv (21 : Int64))) ^^^ (((g * (own_inv (21 : Int64))).toUInt64 >>> ((14 : Int32) &&& 0x3f).toInt64.toUInt64).toInt64)))]))
    refine Go.st (fun _ kt => XS.lushr X1.here hx rfl (hb hby d3_31) rfl kt) ?_
    show Go p e below _ (T1.setTop (mkF m 32 #[.val (.long k), .second, .val (.long g), .second, .val (.long (g * (own_inv (21 : Int64)))), .second, .unset, .unset] [(.long (((g * (own_inv (21 : Int64))).toUInt64 >>> ((28 : Int32) &&& 0x3f).toInt64.toUInt64).toInt64)), (.long ((g * (own_inv (21 : Int64))) ^^^ (((g * (own_inv (21 : Int64))).toUInt64 >>> ((14 : Int32) &&& 0x3f).toInt64.toUInt64).toInt64)))]))
    refine Go.st (fun _ kt => XS.lxor X1.here hx rfl (hb hby d3_32) rfl kt) ?_
    show Go p e below _ (T1.setTop (mkF m 33 #[.val (.long k), .second, .val (.long g), .second, .val (.long (g * (own_inv (21 : Int64)))), .second, .unset, .unset] [(.long (((g * (own_inv (21 : Int64))) ^^^ (((g * (own_inv (21 : Int64))).toUInt64 >>> ((14 : Int32) &&& 0x3f).toInt64.toUInt64).toInt64)) ^^^ (((g * (own_inv (21 : Int64))).toUInt64 >>> ((28 : Int32) &&& 0x3f).toInt64.toUInt64).toInt64)))]))
    refine Go.st (fun _ kt => XS.lload X1.here hx rfl (hb hby d3_33) rfl kt) ?_
    show Go p e below _ (T1.setTop (mkF m 35 #[.val (.long k), .second, .val (.long g), .second, .val (.long (g * (own_inv (21 : Int64)))), .second, .unset, .unset] [(.long (g * (own_inv (21 : Int64)))), (.long (((g * (own_inv (21 : Int64))) ^^^ (((g * (own_inv (21 : Int64))).toUInt64 >>> ((14 : Int32) &&& 0x3f).toInt64.toUInt64).toInt64)) ^^^ (((g * (own_inv (21 : Int64))).toUInt64 >>> ((28 : Int32) &&& 0x3f).toInt64.toUInt64).toInt64)))]))
    refine Go.st (fun _ kt => XS.bipush X1.here hx rfl (hb hby d3_35) kt) ?_
    show Go p e below _ (T1.setTop (mkF m 37 #[.val (.long k), .second, .val (.long g), .second, .val (.long (g * (own_inv (21 : Int64)))), .second, .unset, .unset] [(.int (42 : Int32)), (.long (g * (own_inv (21 : Int64)))), (.long (((g * (own_inv (21 : Int64))) ^^^ (((g * (own_inv (21 : Int64))).toUInt64 >>> ((14 : Int32) &&& 0x3f).toInt64.toUInt64).toInt64)) ^^^ (((g * (own_inv (21 : Int64))).toUInt64 >>> ((28 : Int32) &&& 0x3f).toInt64.toUInt64).toInt64)))]))
    refine Go.st (fun _ kt => XS.lushr X1.here hx rfl (hb hby d3_37) rfl kt) ?_
    show Go p e below _ (T1.setTop (mkF m 38 #[.val (.long k), .second, .val (.long g), .second, .val (.long (g * (own_inv (21 : Int64)))), .second, .unset, .unset] [(.long (((g * (own_inv (21 : Int64))).toUInt64 >>> ((42 : Int32) &&& 0x3f).toInt64.toUInt64).toInt64)), (.long (((g * (own_inv (21 : Int64))) ^^^ (((g * (own_inv (21 : Int64))).toUInt64 >>> ((14 : Int32) &&& 0x3f).toInt64.toUInt64).toInt64)) ^^^ (((g * (own_inv (21 : Int64))).toUInt64 >>> ((28 : Int32) &&& 0x3f).toInt64.toUInt64).toInt64)))]))
    refine Go.st (fun _ kt => XS.lxor X1.here hx rfl (hb hby d3_38) rfl kt) ?_
    show Go p e below _ (T1.setTop (mkF m 39 #[.val (.long k), .second, .val (.long g), .second, .val (.long (g * (own_inv (21 : Int64)))), .second, .unset, .unset] [(.long ((((g * (own_inv (21 : Int64))) ^^^ (((g * (own_inv (21 : Int64))).toUInt64 >>> ((14 : Int32) &&& 0x3f).toInt64.toUInt64).toInt64)) ^^^ (((g * (own_inv (21 : Int64))).toUInt64 >>> ((28 : Int32) &&& 0x3f).toInt64.toUInt64).toInt64)) ^^^ (((g * (own_inv (21 : Int64))).toUInt64 >>> ((42 : Int32) &&& 0x3f).toInt64.toUInt64).toInt64)))]))
    refine Go.st (fun _ kt => XS.lload X1.here hx rfl (hb hby d3_39) rfl kt) ?_
    show Go p e below _ (T1.setTop (mkF m 41 #[.val (.long k), .second, .val (.long g), .second, .val (.long (g * (own_inv (21 : Int64)))), .second, .unset, .unset] [(.long (g * (own_inv (21 : Int64)))), (.long ((((g * (own_inv (21 : Int64))) ^^^ (((g * (own_inv (21 : Int64))).toUInt64 >>> ((14 : Int32) &&& 0x3f).toInt64.toUInt64).toInt64)) ^^^ (((g * (own_inv (21 : Int64))).toUInt64 >>> ((28 : Int32) &&& 0x3f).toInt64.toUInt64).toInt64)) ^^^ (((g * (own_inv (21 : Int64))).toUInt64 >>> ((42 : Int32) &&& 0x3f).toInt64.toUInt64).toInt64)))]))
    refine Go.st (fun _ kt => XS.bipush X1.here hx rfl (hb hby d3_41) kt) ?_
    show Go p e below _ (T1.setTop (mkF m 43 #[.val (.long k), .second, .val (.long g), .second, .val (.long (g * (own_inv (21 : Int64)))), .second, .unset, .unset] [(.int (56 : Int32)), (.long (g * (own_inv (21 : Int64)))), (.long ((((g * (own_inv (21 : Int64))) ^^^ (((g * (own_inv (21 : Int64))).toUInt64 >>> ((14 : Int32) &&& 0x3f).toInt64.toUInt64).toInt64)) ^^^ (((g * (own_inv (21 : Int64))).toUInt64 >>> ((28 : Int32) &&& 0x3f).toInt64.toUInt64).toInt64)) ^^^ (((g * (own_inv (21 : Int64))).toUInt64 >>> ((42 : Int32) &&& 0x3f).toInt64.toUInt64).toInt64)))]))
    refine Go.st (fun _ kt => XS.lushr X1.here hx rfl (hb hby d3_43) rfl kt) ?_
    show Go p e below _ (T1.setTop (mkF m 44 #[.val (.long k), .second, .val (.long g), .second, .val (.long (g * (own_inv (21 : Int64)))), .second, .unset, .unset] [(.long (((g * (own_inv (21 : Int64))).toUInt64 >>> ((56 : Int32) &&& 0x3f).toInt64.toUInt64).toInt64)), (.long ((((g * (own_inv (21 : Int64))) ^^^ (((g * (own_inv (21 : Int64))).toUInt64 >>> ((14 : Int32) &&& 0x3f).toInt64.toUInt64).toInt64)) ^^^ (((g * (own_inv (21 : Int64))).toUInt64 >>> ((28 : Int32) &&& 0x3f).toInt64.toUInt64).toInt64)) ^^^ (((g * (own_inv (21 : Int64))).toUInt64 >>> ((42 : Int32) &&& 0x3f).toInt64.toUInt64).toInt64)))]))
    refine Go.st (fun _ kt => XS.lxor X1.here hx rfl (hb hby d3_44) rfl kt) ?_
    show Go p e below _ (T1.setTop (mkF m 45 #[.val (.long k), .second, .val (.long g), .second, .val (.long (g * (own_inv (21 : Int64)))), .second, .unset, .unset] [(.long (((((g * (own_inv (21 : Int64))) ^^^ (((g * (own_inv (21 : Int64))).toUInt64 >>> ((14 : Int32) &&& 0x3f).toInt64.toUInt64).toInt64)) ^^^ (((g * (own_inv (21 : Int64))).toUInt64 >>> ((28 : Int32) &&& 0x3f).toInt64.toUInt64).toInt64)) ^^^ (((g * (own_inv (21 : Int64))).toUInt64 >>> ((42 : Int32) &&& 0x3f).toInt64.toUInt64).toInt64)) ^^^ (((g * (own_inv (21 : Int64))).toUInt64 >>> ((56 : Int32) &&& 0x3f).toInt64.toUInt64).toInt64)))]))
    refine Go.st (fun _ kt => XS.lstore X1.here hx rfl (hb hby d3_45) rfl (l' := #[.val (.long k), .second, .val (.long g), .second, .val (.long (g * (own_inv (21 : Int64)))), .second, .val (.long (((((g * (own_inv (21 : Int64))) ^^^ (((g * (own_inv (21 : Int64))).toUInt64 >>> ((14 : Int32) &&& 0x3f).toInt64.toUInt64).toInt64)) ^^^ (((g * (own_inv (21 : Int64))).toUInt64 >>> ((28 : Int32) &&& 0x3f).toInt64.toUInt64).toInt64)) ^^^ (((g * (own_inv (21 : Int64))).toUInt64 >>> ((42 : Int32) &&& 0x3f).toInt64.toUInt64).toInt64)) ^^^ (((g * (own_inv (21 : Int64))).toUInt64 >>> ((56 : Int32) &&& 0x3f).toInt64.toUInt64).toInt64))), .second]) rfl kt) ?_
    show Go p e below _ (T1.setTop (mkF m 47 #[.val (.long k), .second, .val (.long g), .second, .val (.long (g * (own_inv (21 : Int64)))), .second, .val (.long (((((g * (own_inv (21 : Int64))) ^^^ (((g * (own_inv (21 : Int64))).toUInt64 >>> ((14 : Int32) &&& 0x3f).toInt64.toUInt64).toInt64)) ^^^ (((g * (own_inv (21 : Int64))).toUInt64 >>> ((28 : Int32) &&& 0x3f).toInt64.toUInt64).toInt64)) ^^^ (((g * (own_inv (21 : Int64))).toUInt64 >>> ((42 : Int32) &&& 0x3f).toInt64.toUInt64).toInt64)) ^^^ (((g * (own_inv (21 : Int64))).toUInt64 >>> ((56 : Int32) &&& 0x3f).toInt64.toUInt64).toInt64))), .second] []))
    refine Go.st (fun _ kt => XS.lloadN X1.here hx rfl (hb hby d3_47) rfl kt) ?_
    show Go p e below _ (T1.setTop (mkF m 48 #[.val (.long k), .second, .val (.long g), .second, .val (.long (g * (own_inv (21 : Int64)))), .second, .val (.long (((((g * (own_inv (21 : Int64))) ^^^ (((g * (own_inv (21 : Int64))).toUInt64 >>> ((14 : Int32) &&& 0x3f).toInt64.toUInt64).toInt64)) ^^^ (((g * (own_inv (21 : Int64))).toUInt64 >>> ((28 : Int32) &&& 0x3f).toInt64.toUInt64).toInt64)) ^^^ (((g * (own_inv (21 : Int64))).toUInt64 >>> ((42 : Int32) &&& 0x3f).toInt64.toUInt64).toInt64)) ^^^ (((g * (own_inv (21 : Int64))).toUInt64 >>> ((56 : Int32) &&& 0x3f).toInt64.toUInt64).toInt64))), .second] [(.long k)]))
    refine Go.st (fun _ kt => XS.lload X1.here hx rfl (hb hby d3_48) rfl kt) ?_
    show Go p e below _ (T1.setTop (mkF m 50 #[.val (.long k), .second, .val (.long g), .second, .val (.long (g * (own_inv (21 : Int64)))), .second, .val (.long (((((g * (own_inv (21 : Int64))) ^^^ (((g * (own_inv (21 : Int64))).toUInt64 >>> ((14 : Int32) &&& 0x3f).toInt64.toUInt64).toInt64)) ^^^ (((g * (own_inv (21 : Int64))).toUInt64 >>> ((28 : Int32) &&& 0x3f).toInt64.toUInt64).toInt64)) ^^^ (((g * (own_inv (21 : Int64))).toUInt64 >>> ((42 : Int32) &&& 0x3f).toInt64.toUInt64).toInt64)) ^^^ (((g * (own_inv (21 : Int64))).toUInt64 >>> ((56 : Int32) &&& 0x3f).toInt64.toUInt64).toInt64))), .second] [(.long (((((g * (own_inv (21 : Int64))) ^^^ (((g * (own_inv (21 : Int64))).toUInt64 >>> ((14 : Int32) &&& 0x3f).toInt64.toUInt64).toInt64)) ^^^ (((g * (own_inv (21 : Int64))).toUInt64 >>> ((28 : Int32) &&& 0x3f).toInt64.toUInt64).toInt64)) ^^^ (((g * (own_inv (21 : Int64))).toUInt64 >>> ((42 : Int32) &&& 0x3f).toInt64.toUInt64).toInt64)) ^^^ (((g * (own_inv (21 : Int64))).toUInt64 >>> ((56 : Int32) &&& 0x3f).toInt64.toUInt64).toInt64))), (.long k)]))
    obtain ⟨_, _, ⟨T3, L3, k3, n3⟩, -, X3, ⟨Lc3, hQ3, l3, y3, z3⟩, st3⟩ := Jvm.LawKit.callS X1 hx (y := (⟨"com/example/rowsieve/rowsieve/kind/bloom/ValueHashMixPinLaw", "fromH3", "(JJ)Z"⟩ : MethodName)) hown (mvT hZ (hw _ (List.mem_of_getElem? (i := 15) rfl))) (mvT hZ (hw _ (List.mem_of_getElem? (i := 16) rfl))) (mvT hZ (hw _ (List.mem_of_getElem? (i := 8) rfl))) (mvT hZ (hw _ (List.mem_of_getElem? (i := 17) rfl))) (by decide) (backOf (W := 0) (rm4 l Z a0 hw [] k (((((g * (own_inv (21 : Int64))) ^^^ (((g * (own_inv (21 : Int64))).toUInt64 >>> ((14 : Int32) &&& 0x3f).toInt64.toUInt64).toInt64)) ^^^ (((g * (own_inv (21 : Int64))).toUInt64 >>> ((28 : Int32) &&& 0x3f).toInt64.toUInt64).toInt64)) ^^^ (((g * (own_inv (21 : Int64))).toUInt64 >>> ((42 : Int32) &&& 0x3f).toInt64.toUInt64).toInt64)) ^^^ (((g * (own_inv (21 : Int64))).toUInt64 >>> ((56 : Int32) &&& 0x3f).toInt64.toUInt64).toInt64)) h0 n0 Z0) hZ (hw _ (List.mem_of_getElem? (i := 17) rfl)) (hw _ (List.mem_of_getElem? (i := 8) rfl)) (by decide) (by decide)) (g := (mkF m 50 #[.val (.long k), .second, .val (.long g), .second, .val (.long (g * (own_inv (21 : Int64)))), .second, .val (.long (((((g * (own_inv (21 : Int64))) ^^^ (((g * (own_inv (21 : Int64))).toUInt64 >>> ((14 : Int32) &&& 0x3f).toInt64.toUInt64).toInt64)) ^^^ (((g * (own_inv (21 : Int64))).toUInt64 >>> ((28 : Int32) &&& 0x3f).toInt64.toUInt64).toInt64)) ^^^ (((g * (own_inv (21 : Int64))).toUInt64 >>> ((42 : Int32) &&& 0x3f).toInt64.toUInt64).toInt64)) ^^^ (((g * (own_inv (21 : Int64))).toUInt64 >>> ((56 : Int32) &&& 0x3f).toInt64.toUInt64).toInt64))), .second] [(.long (((((g * (own_inv (21 : Int64))) ^^^ (((g * (own_inv (21 : Int64))).toUInt64 >>> ((14 : Int32) &&& 0x3f).toInt64.toUInt64).toInt64)) ^^^ (((g * (own_inv (21 : Int64))).toUInt64 >>> ((28 : Int32) &&& 0x3f).toInt64.toUInt64).toInt64)) ^^^ (((g * (own_inv (21 : Int64))).toUInt64 >>> ((42 : Int32) &&& 0x3f).toInt64.toUInt64).toInt64)) ^^^ (((g * (own_inv (21 : Int64))).toUInt64 >>> ((56 : Int32) &&& 0x3f).toInt64.toUInt64).toInt64))), (.long k)])) rfl (by rw [hml]; rfl) (argsL := [(.long k), (.long (((((g * (own_inv (21 : Int64))) ^^^ (((g * (own_inv (21 : Int64))).toUInt64 >>> ((14 : Int32) &&& 0x3f).toInt64.toUInt64).toInt64)) ^^^ (((g * (own_inv (21 : Int64))).toUInt64 >>> ((28 : Int32) &&& 0x3f).toInt64.toUInt64).toInt64)) ^^^ (((g * (own_inv (21 : Int64))).toUInt64 >>> ((42 : Int32) &&& 0x3f).toInt64.toUInt64).toInt64)) ^^^ (((g * (own_inv (21 : Int64))).toUInt64 >>> ((56 : Int32) &&& 0x3f).toInt64.toUInt64).toInt64)))]) (rest := []) (lenOf own_pd3 rfl) rfl (by show 2 * 0 + _ ≤ _; exact Nat.le_of_eq rfl) (hb hby d3_50) (fun _ _ => ⟨rfl, e1, (by decide : 0 + 0 ≤ _), (by decide : 0 + 0 ≤ _)⟩)
    dsimp only [Pt.U, Pt.locs, Pt.cells, Pt.slots] at X3 l3 y3 z3 st3 hQ3
    subst l3 y3 z3
    obtain ⟨z3, rfl, hz3, N3q, e3⟩ := hQ3
    have N3 := Fr.app N1 N3q
    refine Go.st st3 ?_
    show Go p e below _ (T3.setTop (mkF m 53 #[.val (.long k), .second, .val (.long g), .second, .val (.long (g * (own_inv (21 : Int64)))), .second, .val (.long (((((g * (own_inv (21 : Int64))) ^^^ (((g * (own_inv (21 : Int64))).toUInt64 >>> ((14 : Int32) &&& 0x3f).toInt64.toUInt64).toInt64)) ^^^ (((g * (own_inv (21 : Int64))).toUInt64 >>> ((28 : Int32) &&& 0x3f).toInt64.toUInt64).toInt64)) ^^^ (((g * (own_inv (21 : Int64))).toUInt64 >>> ((42 : Int32) &&& 0x3f).toInt64.toUInt64).toInt64)) ^^^ (((g * (own_inv (21 : Int64))).toUInt64 >>> ((56 : Int32) &&& 0x3f).toInt64.toUInt64).toInt64))), .second] [(.int z3)]))
    by_cases hc53_4 : z3 = (0 : Int32)
    · refine Go.st (fun _ kt => XS.ifNo X3.here hx rfl (hb hby d3_53) rfl ((if0 _ _).trans (teq hc53_4).2) kt) ?_
      show Go p e below _ (T3.setTop (mkF m 56 #[.val (.long k), .second, .val (.long g), .second, .val (.long (g * (own_inv (21 : Int64)))), .second, .val (.long (((((g * (own_inv (21 : Int64))) ^^^ (((g * (own_inv (21 : Int64))).toUInt64 >>> ((14 : Int32) &&& 0x3f).toInt64.toUInt64).toInt64)) ^^^ (((g * (own_inv (21 : Int64))).toUInt64 >>> ((28 : Int32) &&& 0x3f).toInt64.toUInt64).toInt64)) ^^^ (((g * (own_inv (21 : Int64))).toUInt64 >>> ((42 : Int32) &&& 0x3f).toInt64.toUInt64).toInt64)) ^^^ (((g * (own_inv (21 : Int64))).toUInt64 >>> ((56 : Int32) &&& 0x3f).toInt64.toUInt64).toInt64))), .second] []))
      refine Go.st (fun _ kt => XS.lloadN X3.here hx rfl (hb hby d3_56) rfl kt) ?_
      show Go p e below _ (T3.setTop (mkF m 57 #[.val (.long k), .second, .val (.long g), .second, .val (.long (g * (own_inv (21 : Int64)))), .second, .val (.long (((((g * (own_inv (21 : Int64))) ^^^ (((g * (own_inv (21 : Int64))).toUInt64 >>> ((14 : Int32) &&& 0x3f).toInt64.toUInt64).toInt64)) ^^^ (((g * (own_inv (21 : Int64))).toUInt64 >>> ((28 : Int32) &&& 0x3f).toInt64.toUInt64).toInt64)) ^^^ (((g * (own_inv (21 : Int64))).toUInt64 >>> ((42 : Int32) &&& 0x3f).toInt64.toUInt64).toInt64)) ^^^ (((g * (own_inv (21 : Int64))).toUInt64 >>> ((56 : Int32) &&& 0x3f).toInt64.toUInt64).toInt64))), .second] [(.long k)]))
      refine Go.st (fun _ kt => XS.lload X3.here hx rfl (hb hby d3_57) rfl kt) ?_
      show Go p e below _ (T3.setTop (mkF m 59 #[.val (.long k), .second, .val (.long g), .second, .val (.long (g * (own_inv (21 : Int64)))), .second, .val (.long (((((g * (own_inv (21 : Int64))) ^^^ (((g * (own_inv (21 : Int64))).toUInt64 >>> ((14 : Int32) &&& 0x3f).toInt64.toUInt64).toInt64)) ^^^ (((g * (own_inv (21 : Int64))).toUInt64 >>> ((28 : Int32) &&& 0x3f).toInt64.toUInt64).toInt64)) ^^^ (((g * (own_inv (21 : Int64))).toUInt64 >>> ((42 : Int32) &&& 0x3f).toInt64.toUInt64).toInt64)) ^^^ (((g * (own_inv (21 : Int64))).toUInt64 >>> ((56 : Int32) &&& 0x3f).toInt64.toUInt64).toInt64))), .second] [(.long (((((g * (own_inv (21 : Int64))) ^^^ (((g * (own_inv (21 : Int64))).toUInt64 >>> ((14 : Int32) &&& 0x3f).toInt64.toUInt64).toInt64)) ^^^ (((g * (own_inv (21 : Int64))).toUInt64 >>> ((28 : Int32) &&& 0x3f).toInt64.toUInt64).toInt64)) ^^^ (((g * (own_inv (21 : Int64))).toUInt64 >>> ((42 : Int32) &&& 0x3f).toInt64.toUInt64).toInt64)) ^^^ (((g * (own_inv (21 : Int64))).toUInt64 >>> ((56 : Int32) &&& 0x3f).toInt64.toUInt64).toInt64))), (.long k)]))
      refine Go.st (fun _ kt => X3.ldc2Long hx hown (mvT hZ (hw _ (List.mem_of_getElem? (i := 20) rfl))) (g := (mkF m 59 #[.val (.long k), .second, .val (.long g), .second, .val (.long (g * (own_inv (21 : Int64)))), .second, .val (.long (((((g * (own_inv (21 : Int64))) ^^^ (((g * (own_inv (21 : Int64))).toUInt64 >>> ((14 : Int32) &&& 0x3f).toInt64.toUInt64).toInt64)) ^^^ (((g * (own_inv (21 : Int64))).toUInt64 >>> ((28 : Int32) &&& 0x3f).toInt64.toUInt64).toInt64)) ^^^ (((g * (own_inv (21 : Int64))).toUInt64 >>> ((42 : Int32) &&& 0x3f).toInt64.toUInt64).toInt64)) ^^^ (((g * (own_inv (21 : Int64))).toUInt64 >>> ((56 : Int32) &&& 0x3f).toInt64.toUInt64).toInt64))), .second] [(.long (((((g * (own_inv (21 : Int64))) ^^^ (((g * (own_inv (21 : Int64))).toUInt64 >>> ((14 : Int32) &&& 0x3f).toInt64.toUInt64).toInt64)) ^^^ (((g * (own_inv (21 : Int64))).toUInt64 >>> ((28 : Int32) &&& 0x3f).toInt64.toUInt64).toInt64)) ^^^ (((g * (own_inv (21 : Int64))).toUInt64 >>> ((42 : Int32) &&& 0x3f).toInt64.toUInt64).toInt64)) ^^^ (((g * (own_inv (21 : Int64))).toUInt64 >>> ((56 : Int32) &&& 0x3f).toInt64.toUInt64).toInt64))), (.long k)])) rfl (hb hby d3_59) _ kt) ?_
      show Go p e below _ (T3.setTop (mkF m 62 #[.val (.long k), .second, .val (.long g), .second, .val (.long (g * (own_inv (21 : Int64)))), .second, .val (.long (((((g * (own_inv (21 : Int64))) ^^^ (((g * (own_inv (21 : Int64))).toUInt64 >>> ((14 : Int32) &&& 0x3f).toInt64.toUInt64).toInt64)) ^^^ (((g * (own_inv (21 : Int64))).toUInt64 >>> ((28 : Int32) &&& 0x3f).toInt64.toUInt64).toInt64)) ^^^ (((g * (own_inv (21 : Int64))).toUInt64 >>> ((42 : Int32) &&& 0x3f).toInt64.toUInt64).toInt64)) ^^^ (((g * (own_inv (21 : Int64))).toUInt64 >>> ((56 : Int32) &&& 0x3f).toInt64.toUInt64).toInt64))), .second] [(.long (-1 : Int64)), (.long (((((g * (own_inv (21 : Int64))) ^^^ (((g * (own_inv (21 : Int64))).toUInt64 >>> ((14 : Int32) &&& 0x3f).toInt64.toUInt64).toInt64)) ^^^ (((g * (own_inv (21 : Int64))).toUInt64 >>> ((28 : Int32) &&& 0x3f).toInt64.toUInt64).toInt64)) ^^^ (((g * (own_inv (21 : Int64))).toUInt64 >>> ((42 : Int32) &&& 0x3f).toInt64.toUInt64).toInt64)) ^^^ (((g * (own_inv (21 : Int64))).toUInt64 >>> ((56 : Int32) &&& 0x3f).toInt64.toUInt64).toInt64))), (.long k)]))
      refine Go.st (fun _ kt => XS.lxor X3.here hx rfl (hb hby d3_62) rfl kt) ?_
      show Go p e below _ (T3.setTop (mkF m 63 #[.val (.long k), .second, .val (.long g), .second, .val (.long (g * (own_inv (21 : Int64)))), .second, .val (.long (((((g * (own_inv (21 : Int64))) ^^^ (((g * (own_inv (21 : Int64))).toUInt64 >>> ((14 : Int32) &&& 0x3f).toInt64.toUInt64).toInt64)) ^^^ (((g * (own_inv (21 : Int64))).toUInt64 >>> ((28 : Int32) &&& 0x3f).toInt64.toUInt64).toInt64)) ^^^ (((g * (own_inv (21 : Int64))).toUInt64 >>> ((42 : Int32) &&& 0x3f).toInt64.toUInt64).toInt64)) ^^^ (((g * (own_inv (21 : Int64))).toUInt64 >>> ((56 : Int32) &&& 0x3f).toInt64.toUInt64).toInt64))), .second] [(.long ((((((g * (own_inv (21 : Int64))) ^^^ (((g * (own_inv (21 : Int64))).toUInt64 >>> ((14 : Int32) &&& 0x3f).toInt64.toUInt64).toInt64)) ^^^ (((g * (own_inv (21 : Int64))).toUInt64 >>> ((28 : Int32) &&& 0x3f).toInt64.toUInt64).toInt64)) ^^^ (((g * (own_inv (21 : Int64))).toUInt64 >>> ((42 : Int32) &&& 0x3f).toInt64.toUInt64).toInt64)) ^^^ (((g * (own_inv (21 : Int64))).toUInt64 >>> ((56 : Int32) &&& 0x3f).toInt64.toUInt64).toInt64)) ^^^ (-1 : Int64))), (.long k)]))
      obtain ⟨_, _, ⟨T5, L5, k5, n5⟩, -, X5, ⟨Lc5, hQ5, l5, y5, z5⟩, st5⟩ := Jvm.LawKit.callS X3 hx (y := (⟨"com/example/rowsieve/rowsieve/kind/bloom/ValueHashMixPinLaw", "fromH3", "(JJ)Z"⟩ : MethodName)) hown (mvT hZ (hw _ (List.mem_of_getElem? (i := 15) rfl))) (mvT hZ (hw _ (List.mem_of_getElem? (i := 16) rfl))) (mvT hZ (hw _ (List.mem_of_getElem? (i := 8) rfl))) (mvT hZ (hw _ (List.mem_of_getElem? (i := 17) rfl))) (by decide) (backOf (W := 0) (rm4 l Z a0 hw [] k ((((((g * (own_inv (21 : Int64))) ^^^ (((g * (own_inv (21 : Int64))).toUInt64 >>> ((14 : Int32) &&& 0x3f).toInt64.toUInt64).toInt64)) ^^^ (((g * (own_inv (21 : Int64))).toUInt64 >>> ((28 : Int32) &&& 0x3f).toInt64.toUInt64).toInt64)) ^^^ (((g * (own_inv (21 : Int64))).toUInt64 >>> ((42 : Int32) &&& 0x3f).toInt64.toUInt64).toInt64)) ^^^ (((g * (own_inv (21 : Int64))).toUInt64 >>> ((56 : Int32) &&& 0x3f).toInt64.toUInt64).toInt64)) ^^^ (-1 : Int64)) h0 n0 Z0) hZ (hw _ (List.mem_of_getElem? (i := 17) rfl)) (hw _ (List.mem_of_getElem? (i := 8) rfl)) (by decide) (by decide)) (g := (mkF m 63 #[.val (.long k), .second, .val (.long g), .second, .val (.long (g * (own_inv (21 : Int64)))), .second, .val (.long (((((g * (own_inv (21 : Int64))) ^^^ (((g * (own_inv (21 : Int64))).toUInt64 >>> ((14 : Int32) &&& 0x3f).toInt64.toUInt64).toInt64)) ^^^ (((g * (own_inv (21 : Int64))).toUInt64 >>> ((28 : Int32) &&& 0x3f).toInt64.toUInt64).toInt64)) ^^^ (((g * (own_inv (21 : Int64))).toUInt64 >>> ((42 : Int32) &&& 0x3f).toInt64.toUInt64).toInt64)) ^^^ (((g * (own_inv (21 : Int64))).toUInt64 >>> ((56 : Int32) &&& 0x3f).toInt64.toUInt64).toInt64))), .second] [(.long ((((((g * (own_inv (21 : Int64))) ^^^ (((g * (own_inv (21 : Int64))).toUInt64 >>> ((14 : Int32) &&& 0x3f).toInt64.toUInt64).toInt64)) ^^^ (((g * (own_inv (21 : Int64))).toUInt64 >>> ((28 : Int32) &&& 0x3f).toInt64.toUInt64).toInt64)) ^^^ (((g * (own_inv (21 : Int64))).toUInt64 >>> ((42 : Int32) &&& 0x3f).toInt64.toUInt64).toInt64)) ^^^ (((g * (own_inv (21 : Int64))).toUInt64 >>> ((56 : Int32) &&& 0x3f).toInt64.toUInt64).toInt64)) ^^^ (-1 : Int64))), (.long k)])) rfl (by rw [hml]; rfl) (argsL := [(.long k), (.long ((((((g * (own_inv (21 : Int64))) ^^^ (((g * (own_inv (21 : Int64))).toUInt64 >>> ((14 : Int32) &&& 0x3f).toInt64.toUInt64).toInt64)) ^^^ (((g * (own_inv (21 : Int64))).toUInt64 >>> ((28 : Int32) &&& 0x3f).toInt64.toUInt64).toInt64)) ^^^ (((g * (own_inv (21 : Int64))).toUInt64 >>> ((42 : Int32) &&& 0x3f).toInt64.toUInt64).toInt64)) ^^^ (((g * (own_inv (21 : Int64))).toUInt64 >>> ((56 : Int32) &&& 0x3f).toInt64.toUInt64).toInt64)) ^^^ (-1 : Int64)))]) (rest := []) (lenOf own_pd3 rfl) rfl (by show 2 * 0 + _ ≤ _; exact Nat.le_of_eq rfl) (hb hby d3_63) (fun _ _ => ⟨rfl, e3, (by decide : 0 + 0 ≤ _), (by decide : 0 + 0 ≤ _)⟩)
      dsimp only [Pt.U, Pt.locs, Pt.cells, Pt.slots] at X5 l5 y5 z5 st5 hQ5
      subst l5 y5 z5
      obtain ⟨z5, rfl, hz5, N5q, e5⟩ := hQ5
      have N5 := Fr.app N3 N5q
      refine Go.st st5 ?_
      show Go p e below _ (T5.setTop (mkF m 66 #[.val (.long k), .second, .val (.long g), .second, .val (.long (g * (own_inv (21 : Int64)))), .second, .val (.long (((((g * (own_inv (21 : Int64))) ^^^ (((g * (own_inv (21 : Int64))).toUInt64 >>> ((14 : Int32) &&& 0x3f).toInt64.toUInt64).toInt64)) ^^^ (((g * (own_inv (21 : Int64))).toUInt64 >>> ((28 : Int32) &&& 0x3f).toInt64.toUInt64).toInt64)) ^^^ (((g * (own_inv (21 : Int64))).toUInt64 >>> ((42 : Int32) &&& 0x3f).toInt64.toUInt64).toInt64)) ^^^ (((g * (own_inv (21 : Int64))).toUInt64 >>> ((56 : Int32) &&& 0x3f).toInt64.toUInt64).toInt64))), .second] [(.int z5)]))
      by_cases hc66_6 : z5 = (0 : Int32)
      · refine Go.st (fun _ kt => XS.ifYes X5.here hx rfl (pc0 := 66) (pc' := 73) rfl (hb hby d3_66) rfl ((if0 _ _).trans (teq hc66_6).1) (by decide) (by decide) kt) ?_
        show Go p e below _ (T5.setTop (mkF m 73 #[.val (.long k), .second, .val (.long g), .second, .val (.long (g * (own_inv (21 : Int64)))), .second, .val (.long (((((g * (own_inv (21 : Int64))) ^^^ (((g * (own_inv (21 : Int64))).toUInt64 >>> ((14 : Int32) &&& 0x3f).toInt64.toUInt64).toInt64)) ^^^ (((g * (own_inv (21 : Int64))).toUInt64 >>> ((28 : Int32) &&& 0x3f).toInt64.toUInt64).toInt64)) ^^^ (((g * (own_inv (21 : Int64))).toUInt64 >>> ((42 : Int32) &&& 0x3f).toInt64.toUInt64).toInt64)) ^^^ (((g * (own_inv (21 : Int64))).toUInt64 >>> ((56 : Int32) &&& 0x3f).toInt64.toUInt64).toInt64))), .second] []))
        refine Go.st (fun _ kt => XS.iconst X5.here hx rfl (hb hby d3_73) kt) ?_
        show Go p e below _ (T5.setTop (mkF m 74 #[.val (.long k), .second, .val (.long g), .second, .val (.long (g * (own_inv (21 : Int64)))), .second, .val (.long (((((g * (own_inv (21 : Int64))) ^^^ (((g * (own_inv (21 : Int64))).toUInt64 >>> ((14 : Int32) &&& 0x3f).toInt64.toUInt64).toInt64)) ^^^ (((g * (own_inv (21 : Int64))).toUInt64 >>> ((28 : Int32) &&& 0x3f).toInt64.toUInt64).toInt64)) ^^^ (((g * (own_inv (21 : Int64))).toUInt64 >>> ((42 : Int32) &&& 0x3f).toInt64.toUInt64).toInt64)) ^^^ (((g * (own_inv (21 : Int64))).toUInt64 >>> ((56 : Int32) &&& 0x3f).toInt64.toUInt64).toInt64))), .second] [(.int (0 : Int32))]))
        refine Go.retN X5 hx (t := .boolean) Bd.returns (by simp) (BodyLoose.notSynchronized Bd) (hb hby d3_74) (Q := (Q_rm3 Z k g h0 n0)) (by decide) (by decide) ?_
        show (Q_rm3 Z k g h0 n0) _ T5.heap _
        rw [e5]
        exact ⟨(0 : Int32), rfl, by simp only [own_B, own_P3, own_P5, lw_lt, lw_eq, own_q, own_c, own_p, own_su] at *; simp_all, N5, rfl⟩
      · refine Go.st (fun _ kt => XS.ifNo X5.here hx rfl (hb hby d3_66) rfl ((if0 _ _).trans (feq hc66_6).1) kt) ?_
        show Go p e below _ (T5.setTop (mkF m 69 #[.val (.long k), .second, .val (.long g), .second, .val (.long (g * (own_inv (21 : Int64)))), .second, .val (.long (((((g * (own_inv (21 : Int64))) ^^^ (((g * (own_inv (21 : Int64))).toUInt64 >>> ((14 : Int32) &&& 0x3f).toInt64.toUInt64).toInt64)) ^^^ (((g * (own_inv (21 : Int64))).toUInt64 >>> ((28 : Int32) &&& 0x3f).toInt64.toUInt64).toInt64)) ^^^ (((g * (own_inv (21 : Int64))).toUInt64 >>> ((42 : Int32) &&& 0x3f).toInt64.toUInt64).toInt64)) ^^^ (((g * (own_inv (21 : Int64))).toUInt64 >>> ((56 : Int32) &&& 0x3f).toInt64.toUInt64).toInt64))), .second] []))
        refine Go.st (fun _ kt => XS.iconst X5.here hx rfl (hb hby d3_69) kt) ?_
        show Go p e below _ (T5.setTop (mkF m 70 #[.val (.long k), .second, .val (.long g), .second, .val (.long (g * (own_inv (21 : Int64)))), .second, .val (.long (((((g * (own_inv (21 : Int64))) ^^^ (((g * (own_inv (21 : Int64))).toUInt64 >>> ((14 : Int32) &&& 0x3f).toInt64.toUInt64).toInt64)) ^^^ (((g * (own_inv (21 : Int64))).toUInt64 >>> ((28 : Int32) &&& 0x3f).toInt64.toUInt64).toInt64)) ^^^ (((g * (own_inv (21 : Int64))).toUInt64 >>> ((42 : Int32) &&& 0x3f).toInt64.toUInt64).toInt64)) ^^^ (((g * (own_inv (21 : Int64))).toUInt64 >>> ((56 : Int32) &&& 0x3f).toInt64.toUInt64).toInt64))), .second] [(.int (1 : Int32))]))
        refine Go.st (fun _ kt => XS.goto X5.here hx rfl (pc0 := 70) (pc' := 74) rfl (hb hby d3_70) (by decide) (by decide) kt) ?_
        show Go p e below _ (T5.setTop (mkF m 74 #[.val (.long k), .second, .val (.long g), .second, .val (.long (g * (own_inv (21 : Int64)))), .second, .val (.long (((((g * (own_inv (21 : Int64))) ^^^ (((g * (own_inv (21 : Int64))).toUInt64 >>> ((14 : Int32) &&& 0x3f).toInt64.toUInt64).toInt64)) ^^^ (((g * (own_inv (21 : Int64))).toUInt64 >>> ((28 : Int32) &&& 0x3f).toInt64.toUInt64).toInt64)) ^^^ (((g * (own_inv (21 : Int64))).toUInt64 >>> ((42 : Int32) &&& 0x3f).toInt64.toUInt64).toInt64)) ^^^ (((g * (own_inv (21 : Int64))).toUInt64 >>> ((56 : Int32) &&& 0x3f).toInt64.toUInt64).toInt64))), .second] [(.int (1 : Int32))]))
        refine Go.retN X5 hx (t := .boolean) Bd.returns (by simp) (BodyLoose.notSynchronized Bd) (hb hby d3_74) (Q := (Q_rm3 Z k g h0 n0)) (by decide) (by decide) ?_
        show (Q_rm3 Z k g h0 n0) _ T5.heap _
        rw [e5]
        exact ⟨(1 : Int32), rfl, by simp only [own_B, own_P3, own_P5, lw_lt, lw_eq, own_q, own_c, own_p, own_su] at *; simp_all, N5, rfl⟩
    · refine Go.st (fun _ kt => XS.ifYes X3.here hx rfl (pc0 := 53) (pc' := 69) rfl (hb hby d3_53) rfl ((if0 _ _).trans (feq hc53_4).2) (by decide) (by decide) kt) ?_
      show Go p e below _ (T3.setTop (mkF m 69 #[.val (.long k), .second, .val (.long g), .second, .val (.long (g * (own_inv (21 : Int64)))), .second, .val (.long (((((g * (own_inv (21 : Int64))) ^^^ (((g * (own_inv (21 : Int64))).toUInt64 >>> ((14 : Int32) &&& 0x3f).toInt64.toUInt64).toInt64)) ^^^ (((g * (own_inv (21 : Int64))).toUInt64 >>> ((28 : Int32) &&& 0x3f).toInt64.toUInt64).toInt64)) ^^^ (((g * (own_inv (21 : Int64))).toUInt64 >>> ((42 : Int32) &&& 0x3f).toInt64.toUInt64).toInt64)) ^^^ (((g * (own_inv (21 : Int64))).toUInt64 >>> ((56 : Int32) &&& 0x3f).toInt64.toUInt64).toInt64))), .second] []))
      refine Go.st (fun _ kt => XS.iconst X3.here hx rfl (hb hby d3_69) kt) ?_
      show Go p e below _ (T3.setTop (mkF m 70 #[.val (.long k), .second, .val (.long g), .second, .val (.long (g * (own_inv (21 : Int64)))), .second, .val (.long (((((g * (own_inv (21 : Int64))) ^^^ (((g * (own_inv (21 : Int64))).toUInt64 >>> ((14 : Int32) &&& 0x3f).toInt64.toUInt64).toInt64)) ^^^ (((g * (own_inv (21 : Int64))).toUInt64 >>> ((28 : Int32) &&& 0x3f).toInt64.toUInt64).toInt64)) ^^^ (((g * (own_inv (21 : Int64))).toUInt64 >>> ((42 : Int32) &&& 0x3f).toInt64.toUInt64).toInt64)) ^^^ (((g * (own_inv (21 : Int64))).toUInt64 >>> ((56 : Int32) &&& 0x3f).toInt64.toUInt64).toInt64))), .second] [(.int (1 : Int32))]))
      refine Go.st (fun _ kt => XS.goto X3.here hx rfl (pc0 := 70) (pc' := 74) rfl (hb hby d3_70) (by decide) (by decide) kt) ?_
      show Go p e below _ (T3.setTop (mkF m 74 #[.val (.long k), .second, .val (.long g), .second, .val (.long (g * (own_inv (21 : Int64)))), .second, .val (.long (((((g * (own_inv (21 : Int64))) ^^^ (((g * (own_inv (21 : Int64))).toUInt64 >>> ((14 : Int32) &&& 0x3f).toInt64.toUInt64).toInt64)) ^^^ (((g * (own_inv (21 : Int64))).toUInt64 >>> ((28 : Int32) &&& 0x3f).toInt64.toUInt64).toInt64)) ^^^ (((g * (own_inv (21 : Int64))).toUInt64 >>> ((42 : Int32) &&& 0x3f).toInt64.toUInt64).toInt64)) ^^^ (((g * (own_inv (21 : Int64))).toUInt64 >>> ((56 : Int32) &&& 0x3f).toInt64.toUInt64).toInt64))), .second] [(.int (1 : Int32))]))
      refine Go.retN X3 hx (t := .boolean) Bd.returns (by simp) (BodyLoose.notSynchronized Bd) (hb hby d3_74) (Q := (Q_rm3 Z k g h0 n0)) (by decide) (by decide) ?_
      show (Q_rm3 Z k g h0 n0) _ T3.heap _
      rw [e3]
      exact ⟨(1 : Int32), rfl, by simp only [own_B, own_P3, own_P5, lw_lt, lw_eq, own_q, own_c, own_p, own_su] at *; simp_all, N3, rfl⟩
theorem own_mul (x a b : Int64) (h : a * b = 1) : x * a * b = x := by rw [Int64.mul_assoc, h, Int64.mul_one]
theorem own_x3 (A B C D : BitVec 64) : ((A ^^^ B) ^^^ (B ^^^ C)) ^^^ (C ^^^ D) = A ^^^ D := by
  ext i hi; simp only [BitVec.getElem_xor]; cases A[i] <;> cases B[i] <;> cases C[i] <;> simp
theorem own_x2 (A B C : BitVec 64) : (A ^^^ B) ^^^ (B ^^^ C) = A ^^^ C := by
  ext i hi; simp only [BitVec.getElem_xor]; cases A[i] <;> cases B[i] <;> simp
theorem own_msb (x : BitVec 64) (k : Nat) : (x ^^^ x.sshiftRight k).msb = false := by
  rw [BitVec.msb_xor, BitVec.msb_sshiftRight]; simp
theorem own_nonneg (g : Int64) (h : g.toBitVec.msb = false) : ¬ g < 0 := by
  rw [Int64.lt_iff_toInt_lt]
  have := BitVec.toInt_eq_toNat_of_msb h
  have e : g.toInt = g.toBitVec.toInt := rfl
  rw [e, this]
  simp
theorem own_big (x : BitVec 64) (k : Nat) (h : 64 ≤ k) : x >>> k = 0#64 := BitVec.ushiftRight_eq_zero h
theorem own_two (x g : BitVec 64) (k : Nat) (h : g = x ^^^ x.sshiftRight k) : (∃ y : BitVec 64, g = y ^^^ y >>> k ∧ (y = x ∨ ~~~y = x)) := by
  subst h
  cases hm : x.msb
  · exact ⟨x, by rw [BitVec.sshiftRight_eq_of_msb_false hm], Or.inl rfl⟩
  · refine ⟨~~~x, ?_, Or.inr (by simp)⟩
    rw [BitVec.sshiftRight_eq_of_msb_true hm]
    generalize (~~~x) >>> k = y
    ext i hi; simp only [BitVec.getElem_xor, BitVec.getElem_not]; cases x[i] <;> cases y[i] <;> rfl
theorem own_i28 (y : BitVec 64) : ((y ^^^ y >>> 28) ^^^ (y ^^^ y >>> 28) >>> 28) ^^^ (y ^^^ y >>> 28) >>> 56 = y := by
  rw [BitVec.ushiftRight_xor_distrib, BitVec.ushiftRight_xor_distrib, ← BitVec.shiftRight_add, ← BitVec.shiftRight_add, own_x3]
  rw [own_big y (28 + 56) (by decide)]; simp
theorem own_i24 (y : BitVec 64) : ((y ^^^ y >>> 24) ^^^ (y ^^^ y >>> 24) >>> 24) ^^^ (y ^^^ y >>> 24) >>> 48 = y := by
  rw [BitVec.ushiftRight_xor_distrib, BitVec.ushiftRight_xor_distrib, ← BitVec.shiftRight_add, ← BitVec.shiftRight_add, own_x3]
  rw [own_big y (24 + 48) (by decide)]; simp
theorem own_i14 (y : BitVec 64) : ((((y ^^^ y >>> 14) ^^^ (y ^^^ y >>> 14) >>> 14) ^^^ (y ^^^ y >>> 14) >>> 28) ^^^ (y ^^^ y >>> 14) >>> 42) ^^^ (y ^^^ y >>> 14) >>> 56 = y := by
  rw [BitVec.ushiftRight_xor_distrib, BitVec.ushiftRight_xor_distrib, BitVec.ushiftRight_xor_distrib, BitVec.ushiftRight_xor_distrib, ← BitVec.shiftRight_add, ← BitVec.shiftRight_add, ← BitVec.shiftRight_add, ← BitVec.shiftRight_add, own_x3, own_x2]
  rw [show (14 + 42 : Nat) = 56 from rfl, own_x2]
  rw [own_big y (14 + 56) (by decide)]; simp
theorem own_not (x : Int64) : (x ^^^ (-1)).toBitVec = ~~~ x.toBitVec := by
  show x.toBitVec ^^^ (BitVec.allOnes 64) = _
  exact BitVec.xor_allOnes
theorem own_inv28 (x : Int64) : ¬ (own_m6 x < 0) ∧ (own_p (own_m6 x) = x ∨ own_p (own_m6 x) ^^^ (-1) = x) := by
  refine ⟨own_nonneg _ (own_msb x.toBitVec 28), ?_⟩
  obtain ⟨y, h1, h2⟩ := own_two x.toBitVec (own_m6 x).toBitVec 28 rfl
  have e : (own_p (own_m6 x)).toBitVec = y := by
    show ((own_m6 x).toBitVec ^^^ (own_m6 x).toBitVec >>> 28) ^^^ (own_m6 x).toBitVec >>> 56 = y
    rw [h1]; exact own_i28 y
  exact h2.imp (fun h => Int64.toBitVec_inj.mp (e.trans h)) (fun h => Int64.toBitVec_inj.mp (by rw [own_not, e]; exact h))
theorem own_inv24 (x : Int64) : ¬ (own_m2 x < 0) ∧ (own_q (own_m2 x) = x ∨ own_q (own_m2 x) ^^^ (-1) = x) := by
  refine ⟨own_nonneg _ (own_msb x.toBitVec 24), ?_⟩
  obtain ⟨y, h1, h2⟩ := own_two x.toBitVec (own_m2 x).toBitVec 24 rfl
  have e : (own_q (own_m2 x)).toBitVec = y := by
    show ((own_m2 x).toBitVec ^^^ (own_m2 x).toBitVec >>> 24) ^^^ (own_m2 x).toBitVec >>> 48 = y
    rw [h1]; exact own_i24 y
  exact h2.imp (fun h => Int64.toBitVec_inj.mp (e.trans h)) (fun h => Int64.toBitVec_inj.mp (by rw [own_not, e]; exact h))
theorem own_inv14 (x : Int64) : ¬ (own_m4 x < 0) ∧ (own_c (own_m4 x) = x ∨ own_c (own_m4 x) ^^^ (-1) = x) := by
  refine ⟨own_nonneg _ (own_msb x.toBitVec 14), ?_⟩
  obtain ⟨y, h1, h2⟩ := own_two x.toBitVec (own_m4 x).toBitVec 14 rfl
  have e : (own_c (own_m4 x)).toBitVec = y := by
    show ((((own_m4 x).toBitVec ^^^ (own_m4 x).toBitVec >>> 14) ^^^ (own_m4 x).toBitVec >>> 28) ^^^ (own_m4 x).toBitVec >>> 42) ^^^ (own_m4 x).toBitVec >>> 56 = y
    rw [h1]; exact own_i14 y
  exact h2.imp (fun h => Int64.toBitVec_inj.mp (e.trans h)) (fun h => Int64.toBitVec_inj.mp (by rw [own_not, e]; exact h))
theorem own_shl (x : Int64) (k : Int32) (n : Nat) (m : Int64) (h : ∀ y : Int64, (own_sl y k).toBitVec = y.toBitVec <<< n) (hm : m.toBitVec = BitVec.twoPow 64 n) : own_sl x k = x * m := by
  apply Int64.toBitVec_inj.mp
  rw [h, Int64.toBitVec_mul, hm, BitVec.mul_twoPow_eq_shiftLeft]
theorem own_e7 (x : Int64) : own_m7 x = x * 2147483649 := by
  unfold own_m7
  rw [own_shl x 31 31 2147483648 (fun _ => rfl) (by decide)]
  have : (2147483649 : Int64) = 1 + 2147483648 := by decide
  rw [this, Int64.mul_add, Int64.mul_one]
theorem own_e5 (x : Int64) : own_m5 x = x * 21 := by
  unfold own_m5
  rw [own_shl x 2 2 4 (fun _ => rfl) (by decide), own_shl x 4 4 16 (fun _ => rfl) (by decide)]
  have : (21 : Int64) = 1 + 4 + 16 := by decide
  rw [this, Int64.mul_add, Int64.mul_add, Int64.mul_one]
theorem own_e3 (x : Int64) : own_m3 x = x * 265 := by
  unfold own_m3
  rw [own_shl x 3 3 8 (fun _ => rfl) (by decide), own_shl x 8 8 256 (fun _ => rfl) (by decide)]
  have : (265 : Int64) = 1 + 8 + 256 := by decide
  rw [this, Int64.mul_add, Int64.mul_add, Int64.mul_one]
theorem own_e1 (x : Int64) : own_m1 x + 1 = x * 2097151 := by
  unfold own_m1
  rw [own_shl x 21 21 2097152 (fun _ => rfl) (by decide)]
  have h : x ^^^ (-1) = -x - 1 := by
    apply Int64.toBitVec_inj.mp
    rw [own_not]
    show ~~~x.toBitVec = -x.toBitVec - 1#64
    rw [BitVec.not_eq_neg_add]
  have : (2097151 : Int64) = 2097152 + (-1) := by decide
  rw [h, this, Int64.mul_add]
  have h2 : x * (-1) = - x := by rw [Int64.mul_neg, Int64.mul_one]
  rw [h2]
  generalize x * 2097152 = y
  apply Int64.toInt_inj.mp
  simp only [Int64.toInt_add, Int64.toInt_sub, Int64.toInt_neg, Int.bmod_add_bmod, Int.add_bmod_bmod, Int.bmod_sub_bmod]
  congr 1
  have : (1 : Int64).toInt = 1 := by decide
  omega
theorem own_law (k : Int64) : ¬ (own_mix k * own_inv 2147483649 < 0) ∧ (own_P5 k (own_p (own_mix k * own_inv 2147483649)) ∨ own_P5 k (own_p (own_mix k * own_inv 2147483649) ^^^ (-1))) := by
  have e : own_mix k * own_inv 2147483649 = own_m6 (own_m5 (own_m4 (own_m3 (own_m2 (own_m1 k))))) := by
    unfold own_mix; rw [own_e7]; exact own_mul _ _ _ (by decide)
  rw [e]
  have P1 : ∀ h, (own_q h + 1 = k * 2097151 ∨ (own_q h ^^^ (-1)) + 1 = k * 2097151) → ((own_q h + 1) * own_inv 2097151 = k ∨ ((own_q h ^^^ (-1)) + 1) * own_inv 2097151 = k) := by
    intro h q
    exact q.imp (fun z => by rw [z]; exact own_mul _ _ _ (by decide)) (fun z => by rw [z]; exact own_mul _ _ _ (by decide))
  have P3 : own_P3 k (own_m3 (own_m2 (own_m1 k))) := by
    have e : own_m3 (own_m2 (own_m1 k)) * own_inv 265 = own_m2 (own_m1 k) := by rw [own_e3]; exact own_mul _ _ _ (by decide)
    unfold own_P3; rw [e]
    obtain ⟨h1, h2⟩ := own_inv24 (own_m1 k)
    exact ⟨h1, P1 _ (h2.imp (fun z => by rw [z]; exact own_e1 k) (fun z => by rw [z]; exact own_e1 k))⟩
  have P5 : own_P5 k (own_m5 (own_m4 (own_m3 (own_m2 (own_m1 k))))) := by
    have e : own_m5 (own_m4 (own_m3 (own_m2 (own_m1 k)))) * own_inv 21 = own_m4 (own_m3 (own_m2 (own_m1 k))) := by rw [own_e5]; exact own_mul _ _ _ (by decide)
    unfold own_P5; rw [e]
    obtain ⟨h1, h2⟩ := own_inv14 (own_m3 (own_m2 (own_m1 k)))
    exact ⟨h1, h2.imp (fun z => by rw [z]; exact P3) (fun z => by rw [z]; exact P3)⟩
  obtain ⟨h1, h2⟩ := own_inv28 (own_m5 (own_m4 (own_m3 (own_m2 (own_m1 k)))))
  exact ⟨h1, h2.imp (fun z => by rw [z]; exact P5) (fun z => by rw [z]; exact P5)⟩
def Q_rm0 (Z : State) (k : Int64) (h0 : Heap) (n0 : Nat) (v : Option Value) (h : Heap) (L : List Loc) : Prop := v = some (.int 1) ∧ Fr n0 L
theorem ef_rm0 (m : MethodId) (k : Int64) : entryFrame m #[(.long k)] maxLocals = mkF m 0 #[.val (.long k), .second, .unset, .unset, .unset, .unset, .unset, .unset] [] := by first | (simp [entryFrame, mkF, argsToLocals, Value.category, maxLocals]; done) | rfl
set_option maxRecDepth 65536 in
set_option maxHeartbeats 40000000 in
theorem rm0 (l : Launch) (Z : State) (a0 : Array Value) (hw : ∀ d ∈ tables_1, d.before a0 Z = true) (ws : List Jvm.Cond) (k : Int64) (h0 : Heap) (n0 : Nat) (Z0 : n0 ≤ h0.size) :
    MetFree l x (head1 (Jvm.Cond.code x code maxLocals ret :: ws) room_1) (fun a U => a = #[(.long k)] ∧ Z.Warmed39 U.vm ∧ U.heap = h0) (fun _ _ _ _ _ => True) (fun _ U o U' => ∃ v L, o = .returned v ∧ (Q_rm0 Z k h0 n0) v U'.heap L ∧ FrameEnd U o U' L room_1.cells room_1.slots) := by
  refine MetFree.of_bodySF (plainFor_of_name own_pn1) hisR ?_
  intro p e s m args below meth c s₁ Bd hml0 hP hK
  obtain ⟨rfl, hZ, hh⟩ := hP
  have hx := Bd.exec
  have hby := Bd.bytes
  have hml : c.maxLocals = 8 := hml0
  have hown : s.vm.findClass "com/example/rowsieve/rowsieve/kind/bloom/ValueHashMixPinLaw" = some m.cls := findClass_of_methodNamed Bd.named
  have hnm := (name_of_methodNamed Bd.named Bd.method).1
  have X0 : Stand p l e room_1 s m #[(.long k)] below meth c s₁ [] 0 0 := Stand.of_body Bd
  have e0 : s₁.heap = h0 := by rw [← hh, Bd.state]; rfl
  have N0 := Fr.nil n0
  refine Go.st (G := fun s₂ o => ∃ v L, o = .returned v ∧ (Q_rm0 Z k h0 n0) v s₂.heap L ∧ FrameEnd s o s₂ L room_1.cells room_1.slots) (fun t kt => castTop (ef_rm0 m k) kt) ?_
  show Go p e below _ (s₁.setTop (mkF m 0 #[.val (.long k), .second, .unset, .unset, .unset, .unset, .unset, .unset] []))
  refine Go.st (fun _ kt => XS.lloadN X0.here hx rfl (hb hby at_0) rfl kt) ?_
  show Go p e below _ (s₁.setTop (mkF m 1 #[.val (.long k), .second, .unset, .unset, .unset, .unset, .unset, .unset] [(.long k)]))
  obtain ⟨_, _, ⟨T1, L1, k1, n1⟩, -, X1, ⟨Lc1, hQ1, l1, y1, z1⟩, st1⟩ := Jvm.LawKit.callS X0 hx (y := (⟨"com/example/rowsieve/rowsieve/kind/bloom/ValueHash", "mix", "(J)J"⟩ : MethodName)) hown (mvT hZ (hw _ (List.mem_of_getElem? (i := 0) rfl))) (mvT hZ (hw _ (List.mem_of_getElem? (i := 1) rfl))) (mvT hZ (hw _ (List.mem_of_getElem? (i := 2) rfl))) (mvT hZ (hw _ (List.mem_of_getElem? (i := 3) rfl))) (by decide) (backOf (W := 0) (rm1 l Z a0 hw [] k h0 n0 Z0) hZ (hw _ (List.mem_of_getElem? (i := 3) rfl)) (hw _ (List.mem_of_getElem? (i := 2) rfl)) (by decide) (by decide)) (g := (mkF m 1 #[.val (.long k), .second, .unset, .unset, .unset, .unset, .unset, .unset] [(.long k)])) rfl (by rw [hml]; rfl) (argsL := [(.long k)]) (rest := []) (lenOf own_pd2 rfl) rfl (by show 2 * 0 + _ ≤ _; exact Nat.le_of_eq rfl) (hb hby at_1) (fun _ _ => ⟨rfl, e0, (by decide : 0 + 0 ≤ _), (by decide : 0 + 0 ≤ _)⟩)
  dsimp only [Pt.U, Pt.locs, Pt.cells, Pt.slots] at X1 l1 y1 z1 st1 hQ1
  subst l1 y1 z1
  obtain ⟨rfl, N1q, e1⟩ := hQ1
  have N1 := Fr.app N0 N1q
  refine Go.st st1 ?_
  show Go p e below _ (T1.setTop (mkF m 4 #[.val (.long k), .second, .unset, .unset, .unset, .unset, .unset, .unset] [(.long (own_mix k))]))
  refine Go.st (fun _ kt => XS.lstoreN X1.here hx rfl (hb hby at_4) rfl (l' := #[.val (.long k), .second, .val (.long (own_mix k)), .second, .unset, .unset, .unset, .unset]) rfl kt) ?_
  show Go p e below _ (T1.setTop (mkF m 5 #[.val (.long k), .second, .val (.long (own_mix k)), .second, .unset, .unset, .unset, .unset] []))
  refine Go.st (fun _ kt => XS.lloadN X1.here hx rfl (hb hby at_5) rfl kt) ?_
  show Go p e below _ (T1.setTop (mkF m 6 #[.val (.long k), .second, .val (.long (own_mix k)), .second, .unset, .unset, .unset, .unset] [(.long (own_mix k))]))
  refine Go.st (fun _ kt => X1.ldc2Long hx hown (mvT hZ (hw _ (List.mem_of_getElem? (i := 5) rfl))) (g := (mkF m 6 #[.val (.long k), .second, .val (.long (own_mix k)), .second, .unset, .unset, .unset, .unset] [(.long (own_mix k))])) rfl (hb hby at_6) _ kt) ?_
  show Go p e below _ (T1.setTop (mkF m 9 #[.val (.long k), .second, .val (.long (own_mix k)), .second, .unset, .unset, .unset, .unset] [(.long (2147483649 : Int64)), (.long (own_mix k))]))
  obtain ⟨_, _, ⟨T2, L2, k2, n2⟩, -, X2, ⟨Lc2, hQ2, l2, y2, z2⟩, st2⟩ := Jvm.LawKit.callS X1 hx (y := (⟨"com/example/rowsieve/rowsieve/kind/bloom/ValueHashMixPinLaw", "inverse", "(J)J"⟩ : MethodName)) hown (mvT hZ (hw _ (List.mem_of_getElem? (i := 6) rfl))) (mvT hZ (hw _ (List.mem_of_getElem? (i := 7) rfl))) (mvT hZ (hw _ (List.mem_of_getElem? (i := 8) rfl))) (mvT hZ (hw _ (List.mem_of_getElem? (i := 9) rfl))) (by decide) (backOf (W := 2) (rm2 l Z a0 hw [] (2147483649 : Int64) h0 n0 Z0) hZ (hw _ (List.mem_of_getElem? (i := 9) rfl)) (hw _ (List.mem_of_getElem? (i := 8) rfl)) (by decide) (by decide)) (g := (mkF m 9 #[.val (.long k), .second, .val (.long (own_mix k)), .second, .unset, .unset, .unset, .unset] [(.long (2147483649 : Int64)), (.long (own_mix k))])) rfl (by rw [hml]; rfl) (argsL := [(.long (2147483649 : Int64))]) (rest := [(.long (own_mix k))]) (lenOf own_pd2 rfl) rfl (by show 2 * 0 + _ ≤ _; exact Nat.le_of_eq rfl) (hb hby at_9) (fun _ _ => ⟨rfl, e1, (by decide : 0 + 0 ≤ _), (by decide : 0 + 0 ≤ _)⟩)
  dsimp only [Pt.U, Pt.locs, Pt.cells, Pt.slots] at X2 l2 y2 z2 st2 hQ2
  subst l2 y2 z2
  obtain ⟨rfl, N2q, e2⟩ := hQ2
  have N2 := Fr.app N1 N2q
  refine Go.st st2 ?_
  show Go p e below _ (T2.setTop (mkF m 12 #[.val (.long k), .second, .val (.long (own_mix k)), .second, .unset, .unset, .unset, .unset] [(.long (own_inv (2147483649 : Int64))), (.long (own_mix k))]))
  refine Go.st (fun _ kt => XS.lmul X2.here hx rfl (hb hby at_12) rfl kt) ?_
  show Go p e below _ (T2.setTop (mkF m 13 #[.val (.long k), .second, .val (.long (own_mix k)), .second, .unset, .unset, .unset, .unset] [(.long ((own_mix k) * (own_inv (2147483649 : Int64))))]))
  refine Go.st (fun _ kt => XS.lstore X2.here hx rfl (hb hby at_13) rfl (l' := #[.val (.long k), .second, .val (.long (own_mix k)), .second, .val (.long ((own_mix k) * (own_inv (2147483649 : Int64)))), .second, .unset, .unset]) rfl kt) ?_
  show Go p e below _ (T2.setTop (mkF m 15 #[.val (.long k), .second, .val (.long (own_mix k)), .second, .val (.long ((own_mix k) * (own_inv (2147483649 : Int64)))), .second, .unset, .unset] []))
  refine Go.st (fun _ kt => XS.lload X2.here hx rfl (hb hby at_15) rfl kt) ?_
  show Go p e below _ (T2.setTop (mkF m 17 #[.val (.long k), .second, .val (.long (own_mix k)), .second, .val (.long ((own_mix k) * (own_inv (2147483649 : Int64)))), .second, .unset, .unset] [(.long ((own_mix k) * (own_inv (2147483649 : Int64))))]))
  refine Go.st (fun _ kt => XS.lconst X2.here hx rfl (hb hby at_17) kt) ?_
  show Go p e below _ (T2.setTop (mkF m 18 #[.val (.long k), .second, .val (.long (own_mix k)), .second, .val (.long ((own_mix k) * (own_inv (2147483649 : Int64)))), .second, .unset, .unset] [(.long (0 : Int64)), (.long ((own_mix k) * (own_inv (2147483649 : Int64))))]))
  refine Go.st (fun _ kt => XS.lcmp X2.here hx rfl (hb hby at_18) rfl kt) ?_
  show Go p e below _ (T2.setTop (mkF m 19 #[.val (.long k), .second, .val (.long (own_mix k)), .second, .val (.long ((own_mix k) * (own_inv (2147483649 : Int64)))), .second, .unset, .unset] [(.int (lcmpW ((own_mix k) * (own_inv (2147483649 : Int64))) (0 : Int64)))]))
  by_cases hc19_3 : (lcmpW ((own_mix k) * (own_inv (2147483649 : Int64))) (0 : Int64)) < (0 : Int32)
  · refine Go.st (fun _ kt => XS.ifNo X2.here hx rfl (hb hby at_19) rfl ((if0 _ _).trans (tlt hc19_3).2.1) kt) ?_
    show Go p e below _ (T2.setTop (mkF m 22 #[.val (.long k), .second, .val (.long (own_mix k)), .second, .val (.long ((own_mix k) * (own_inv (2147483649 : Int64)))), .second, .unset, .unset] []))
    refine Go.st (fun _ kt => XS.iconst X2.here hx rfl (hb hby at_22) kt) ?_
    show Go p e below _ (T2.setTop (mkF m 23 #[.val (.long k), .second, .val (.long (own_mix k)), .second, .val (.long ((own_mix k) * (own_inv (2147483649 : Int64)))), .second, .unset, .unset] [(.int (0 : Int32))]))
    refine Go.retN X2 hx (t := .boolean) Bd.returns (by simp) (BodyLoose.notSynchronized Bd) (hb hby at_23) (Q := (Q_rm0 Z k h0 n0)) (by decide) (by decide) ?_
    show (Q_rm0 Z k h0 n0) _ T2.heap _
    rw [e2]
    exact absurd (own_law k) (by simp only [own_B, lw_lt, lw_eq, own_p, own_su] at *; simp_all)
  · refine Go.st (fun _ kt => XS.ifYes X2.here hx rfl (pc0 := 19) (pc' := 24) rfl (hb hby at_19) rfl ((if0 _ _).trans (flt hc19_3).2.1) (by decide) (by decide) kt) ?_
    show Go p e below _ (T2.setTop (mkF m 24 #[.val (.long k), .second, .val (.long (own_mix k)), .second, .val (.long ((own_mix k) * (own_inv (2147483649 : Int64)))), .second, .unset, .unset] []))
    refine Go.st (fun _ kt => XS.lload X2.here hx rfl (hb hby at_24) rfl kt) ?_
    show Go p e below _ (T2.setTop (mkF m 26 #[.val (.long k), .second, .val (.long (own_mix k)), .second, .val (.long ((own_mix k) * (own_inv (2147483649 : Int64)))), .second, .unset, .unset] [(.long ((own_mix k) * (own_inv (2147483649 : Int64))))]))
    refine Go.st (fun _ kt => XS.lload X2.here hx rfl (hb hby at_26) rfl kt) ?_
    show Go p e below _ (T2.setTop (mkF m 28 #[.val (.long k), .second, .val (.long (own_mix k)), .second, .val (.long ((own_mix k) * (own_inv (2147483649 : Int64)))), .second, .unset, .unset] [(.long ((own_mix k) * (own_inv (2147483649 : Int64)))), (.long ((own_mix k) * (own_inv (2147483649 : Int64))))]))
    refine Go.st (fun _ kt => XS.bipush X2.here hx rfl (hb hby at_28) kt) ?_
    show Go p e below _ (T2.setTop (mkF m 30 #[.val (.long k), .second, .val (.long (own_mix k)), .second, .val (.long ((own_mix k) * (own_inv (2147483649 : Int64)))), .second, .unset, .unset] [(.int (28 : Int32)), (.long ((own_mix k) * (own_inv (2147483649 : Int64)))), (.long ((own_mix k) * (own_inv (2147483649 : Int64))))]))
    refine Go.st (fun _ kt => XS.lushr X2.here hx rfl (hb hby at_30) rfl kt) ?_
    show Go p e below _ (T2.setTop (mkF m 31 #[.val (.long k), .second, .val (.long (own_mix k)), .second, .val (.long ((own_mix k) * (own_inv (2147483649 : Int64)))), .second, .unset, .unset] [(.long ((((own_mix k) * (own_inv (2147483649 : Int64))).toUInt64 >>> ((28 : Int32) &&& 0x3f).toInt64.toUInt64).toInt64)), (.long ((own_mix k) * (own_inv (2147483649 : Int64))))]))
    refine Go.st (fun _ kt => XS.lxor X2.here hx rfl (hb hby at_31) rfl kt) ?_
    show Go p e below _ (T2.setTop (mkF m 32 #[.val (.long k), .second, .val (.long (own_mix k)), .second, .val (.long ((own_mix k) * (own_inv (2147483649 : Int64)))), .second, .unset, .unset] [(.long (((own_mix k) * (own_inv (2147483649 : Int64))) ^^^ ((((own_mix k) * (own_inv (2147483649 : Int64))).toUInt64 >>> ((28 : Int32) &&& 0x3f).toInt64.toUInt64).toInt64)))]))
    refine Go.st (fun _ kt => XS.lload X2.here hx rfl (hb hby at_32) rfl kt) ?_
    show Go p e below _ (T2.setTop (mkF m 34 #[.val (.long k), .second, .val (.long (own_mix k)), .second, .val (.long ((own_mix k) * (own_inv (2147483649 : Int64)))), .second, .unset, .unset] [(.long ((own_mix k) * (own_inv (2147483649 : Int64)))), (.long (((own_mix k) * (own_inv (2147483649 : Int64))) ^^^ ((((own_mix k) * (own_inv (2147483649 : Int64))).toUInt64 >>> ((28 : Int32) &&& 0x3f).toInt64.toUInt64).toInt64)))]))
    refine Go.st (fun _ kt => XS.bipush X2.here hx rfl (hb hby at_34) kt) ?_
    show Go p e below _ (T2.setTop (mkF m 36 #[.val (.long k), .second, .val (.long (own_mix k)), .second, .val (.long ((own_mix k) * (own_inv (2147483649 : Int64)))), .second, .unset, .unset] [(.int (56 : Int32)), (.long ((own_mix k) * (own_inv (2147483649 : Int64)))), (.long (((own_mix k) * (own_inv (2147483649 : Int64))) ^^^ ((((own_mix k) * (own_inv (2147483649 : Int64))).toUInt64 >>> ((28 : Int32) &&& 0x3f).toInt64.toUInt64).toInt64)))]))
    refine Go.st (fun _ kt => XS.lushr X2.here hx rfl (hb hby at_36) rfl kt) ?_
    show Go p e below _ (T2.setTop (mkF m 37 #[.val (.long k), .second, .val (.long (own_mix k)), .second, .val (.long ((own_mix k) * (own_inv (2147483649 : Int64)))), .second, .unset, .unset] [(.long ((((own_mix k) * (own_inv (2147483649 : Int64))).toUInt64 >>> ((56 : Int32) &&& 0x3f).toInt64.toUInt64).toInt64)), (.long (((own_mix k) * (own_inv (2147483649 : Int64))) ^^^ ((((own_mix k) * (own_inv (2147483649 : Int64))).toUInt64 >>> ((28 : Int32) &&& 0x3f).toInt64.toUInt64).toInt64)))]))
    refine Go.st (fun _ kt => XS.lxor X2.here hx rfl (hb hby at_37) rfl kt) ?_
    show Go p e below _ (T2.setTop (mkF m 38 #[.val (.long k), .second, .val (.long (own_mix k)), .second, .val (.long ((own_mix k) * (own_inv (2147483649 : Int64)))), .second, .unset, .unset] [(.long ((((own_mix k) * (own_inv (2147483649 : Int64))) ^^^ ((((own_mix k) * (own_inv (2147483649 : Int64))).toUInt64 >>> ((28 : Int32) &&& 0x3f).toInt64.toUInt64).toInt64)) ^^^ ((((own_mix k) * (own_inv (2147483649 : Int64))).toUInt64 >>> ((56 : Int32) &&& 0x3f).toInt64.toUInt64).toInt64)))]))
    refine Go.st (fun _ kt => XS.lstore X2.here hx rfl (hb hby at_38) rfl (l' := #[.val (.long k), .second, .val (.long (own_mix k)), .second, .val (.long ((own_mix k) * (own_inv (2147483649 : Int64)))), .second, .val (.long ((((own_mix k) * (own_inv (2147483649 : Int64))) ^^^ ((((own_mix k) * (own_inv (2147483649 : Int64))).toUInt64 >>> ((28 : Int32) &&& 0x3f).toInt64.toUInt64).toInt64)) ^^^ ((((own_mix k) * (own_inv (2147483649 : Int64))).toUInt64 >>> ((56 : Int32) &&& 0x3f).toInt64.toUInt64).toInt64))), .second]) rfl kt) ?_
    show Go p e below _ (T2.setTop (mkF m 40 #[.val (.long k), .second, .val (.long (own_mix k)), .second, .val (.long ((own_mix k) * (own_inv (2147483649 : Int64)))), .second, .val (.long ((((own_mix k) * (own_inv (2147483649 : Int64))) ^^^ ((((own_mix k) * (own_inv (2147483649 : Int64))).toUInt64 >>> ((28 : Int32) &&& 0x3f).toInt64.toUInt64).toInt64)) ^^^ ((((own_mix k) * (own_inv (2147483649 : Int64))).toUInt64 >>> ((56 : Int32) &&& 0x3f).toInt64.toUInt64).toInt64))), .second] []))
    refine Go.st (fun _ kt => XS.lloadN X2.here hx rfl (hb hby at_40) rfl kt) ?_
    show Go p e below _ (T2.setTop (mkF m 41 #[.val (.long k), .second, .val (.long (own_mix k)), .second, .val (.long ((own_mix k) * (own_inv (2147483649 : Int64)))), .second, .val (.long ((((own_mix k) * (own_inv (2147483649 : Int64))) ^^^ ((((own_mix k) * (own_inv (2147483649 : Int64))).toUInt64 >>> ((28 : Int32) &&& 0x3f).toInt64.toUInt64).toInt64)) ^^^ ((((own_mix k) * (own_inv (2147483649 : Int64))).toUInt64 >>> ((56 : Int32) &&& 0x3f).toInt64.toUInt64).toInt64))), .second] [(.long k)]))
    refine Go.st (fun _ kt => XS.lload X2.here hx rfl (hb hby at_41) rfl kt) ?_
    show Go p e below _ (T2.setTop (mkF m 43 #[.val (.long k), .second, .val (.long (own_mix k)), .second, .val (.long ((own_mix k) * (own_inv (2147483649 : Int64)))), .second, .val (.long ((((own_mix k) * (own_inv (2147483649 : Int64))) ^^^ ((((own_mix k) * (own_inv (2147483649 : Int64))).toUInt64 >>> ((28 : Int32) &&& 0x3f).toInt64.toUInt64).toInt64)) ^^^ ((((own_mix k) * (own_inv (2147483649 : Int64))).toUInt64 >>> ((56 : Int32) &&& 0x3f).toInt64.toUInt64).toInt64))), .second] [(.long ((((own_mix k) * (own_inv (2147483649 : Int64))) ^^^ ((((own_mix k) * (own_inv (2147483649 : Int64))).toUInt64 >>> ((28 : Int32) &&& 0x3f).toInt64.toUInt64).toInt64)) ^^^ ((((own_mix k) * (own_inv (2147483649 : Int64))).toUInt64 >>> ((56 : Int32) &&& 0x3f).toInt64.toUInt64).toInt64))), (.long k)]))
    obtain ⟨_, _, ⟨T4, L4, k4, n4⟩, -, X4, ⟨Lc4, hQ4, l4, y4, z4⟩, st4⟩ := Jvm.LawKit.callS X2 hx (y := (⟨"com/example/rowsieve/rowsieve/kind/bloom/ValueHashMixPinLaw", "fromH5", "(JJ)Z"⟩ : MethodName)) hown (mvT hZ (hw _ (List.mem_of_getElem? (i := 11) rfl))) (mvT hZ (hw _ (List.mem_of_getElem? (i := 12) rfl))) (mvT hZ (hw _ (List.mem_of_getElem? (i := 8) rfl))) (mvT hZ (hw _ (List.mem_of_getElem? (i := 13) rfl))) (by decide) (backOf (W := 0) (rm3 l Z a0 hw [] k ((((own_mix k) * (own_inv (2147483649 : Int64))) ^^^ ((((own_mix k) * (own_inv (2147483649 : Int64))).toUInt64 >>> ((28 : Int32) &&& 0x3f).toInt64.toUInt64).toInt64)) ^^^ ((((own_mix k) * (own_inv (2147483649 : Int64))).toUInt64 >>> ((56 : Int32) &&& 0x3f).toInt64.toUInt64).toInt64)) h0 n0 Z0) hZ (hw _ (List.mem_of_getElem? (i := 13) rfl)) (hw _ (List.mem_of_getElem? (i := 8) rfl)) (by decide) (by decide)) (g := (mkF m 43 #[.val (.long k), .second, .val (.long (own_mix k)), .second, .val (.long ((own_mix k) * (own_inv (2147483649 : Int64)))), .second, .val (.long ((((own_mix k) * (own_inv (2147483649 : Int64))) ^^^ ((((own_mix k) * (own_inv (2147483649 : Int64))).toUInt64 >>> ((28 : Int32) &&& 0x3f).toInt64.toUInt64).toInt64)) ^^^ ((((own_mix k) * (own_inv (2147483649 : Int64))).toUInt64 >>> ((56 : Int32) &&& 0x3f).toInt64.toUInt64).toInt64))), .second] [(.long ((((own_mix k) * (own_inv (2147483649 : Int64))) ^^^ ((((own_mix k) * (own_inv (2147483649 : Int64))).toUInt64 >>> ((28 : Int32) &&& 0x3f).toInt64.toUInt64).toInt64)) ^^^ ((((own_mix k) * (own_inv (2147483649 : Int64))).toUInt64 >>> ((56 : Int32) &&& 0x3f).toInt64.toUInt64).toInt64))), (.long k)])) rfl (by rw [hml]; rfl) (argsL := [(.long k), (.long ((((own_mix k) * (own_inv (2147483649 : Int64))) ^^^ ((((own_mix k) * (own_inv (2147483649 : Int64))).toUInt64 >>> ((28 : Int32) &&& 0x3f).toInt64.toUInt64).toInt64)) ^^^ ((((own_mix k) * (own_inv (2147483649 : Int64))).toUInt64 >>> ((56 : Int32) &&& 0x3f).toInt64.toUInt64).toInt64)))]) (rest := []) (lenOf own_pd3 rfl) rfl (by show 2 * 0 + _ ≤ _; exact Nat.le_of_eq rfl) (hb hby at_43) (fun _ _ => ⟨rfl, e2, (by decide : 0 + 0 ≤ _), (by decide : 0 + 0 ≤ _)⟩)
    dsimp only [Pt.U, Pt.locs, Pt.cells, Pt.slots] at X4 l4 y4 z4 st4 hQ4
    subst l4 y4 z4
    obtain ⟨z4, rfl, hz4, N4q, e4⟩ := hQ4
    have N4 := Fr.app N2 N4q
    refine Go.st st4 ?_
    show Go p e below _ (T4.setTop (mkF m 46 #[.val (.long k), .second, .val (.long (own_mix k)), .second, .val (.long ((own_mix k) * (own_inv (2147483649 : Int64)))), .second, .val (.long ((((own_mix k) * (own_inv (2147483649 : Int64))) ^^^ ((((own_mix k) * (own_inv (2147483649 : Int64))).toUInt64 >>> ((28 : Int32) &&& 0x3f).toInt64.toUInt64).toInt64)) ^^^ ((((own_mix k) * (own_inv (2147483649 : Int64))).toUInt64 >>> ((56 : Int32) &&& 0x3f).toInt64.toUInt64).toInt64))), .second] [(.int z4)]))
    by_cases hc46_5 : z4 = (0 : Int32)
    · refine Go.st (fun _ kt => XS.ifNo X4.here hx rfl (hb hby at_46) rfl ((if0 _ _).trans (teq hc46_5).2) kt) ?_
      show Go p e below _ (T4.setTop (mkF m 49 #[.val (.long k), .second, .val (.long (own_mix k)), .second, .val (.long ((own_mix k) * (own_inv (2147483649 : Int64)))), .second, .val (.long ((((own_mix k) * (own_inv (2147483649 : Int64))) ^^^ ((((own_mix k) * (own_inv (2147483649 : Int64))).toUInt64 >>> ((28 : Int32) &&& 0x3f).toInt64.toUInt64).toInt64)) ^^^ ((((own_mix k) * (own_inv (2147483649 : Int64))).toUInt64 >>> ((56 : Int32) &&& 0x3f).toInt64.toUInt64).toInt64))), .second] []))
      refine Go.st (fun _ kt => XS.lloadN X4.here hx rfl (hb hby at_49) rfl kt) ?_
      show Go p e below _ (T4.setTop (mkF m 50 #[.val (.long k), .second, .val (.long (own_mix k)), .second, .val (.long ((own_mix k) * (own_inv (2147483649 : Int64)))), .second, .val (.long ((((own_mix k) * (own_inv (2147483649 : Int64))) ^^^ ((((own_mix k) * (own_inv (2147483649 : Int64))).toUInt64 >>> ((28 : Int32) &&& 0x3f).toInt64.toUInt64).toInt64)) ^^^ ((((own_mix k) * (own_inv (2147483649 : Int64))).toUInt64 >>> ((56 : Int32) &&& 0x3f).toInt64.toUInt64).toInt64))), .second] [(.long k)]))
      refine Go.st (fun _ kt => XS.lload X4.here hx rfl (hb hby at_50) rfl kt) ?_
      show Go p e below _ (T4.setTop (mkF m 52 #[.val (.long k), .second, .val (.long (own_mix k)), .second, .val (.long ((own_mix k) * (own_inv (2147483649 : Int64)))), .second, .val (.long ((((own_mix k) * (own_inv (2147483649 : Int64))) ^^^ ((((own_mix k) * (own_inv (2147483649 : Int64))).toUInt64 >>> ((28 : Int32) &&& 0x3f).toInt64.toUInt64).toInt64)) ^^^ ((((own_mix k) * (own_inv (2147483649 : Int64))).toUInt64 >>> ((56 : Int32) &&& 0x3f).toInt64.toUInt64).toInt64))), .second] [(.long ((((own_mix k) * (own_inv (2147483649 : Int64))) ^^^ ((((own_mix k) * (own_inv (2147483649 : Int64))).toUInt64 >>> ((28 : Int32) &&& 0x3f).toInt64.toUInt64).toInt64)) ^^^ ((((own_mix k) * (own_inv (2147483649 : Int64))).toUInt64 >>> ((56 : Int32) &&& 0x3f).toInt64.toUInt64).toInt64))), (.long k)]))
      refine Go.st (fun _ kt => X4.ldc2Long hx hown (mvT hZ (hw _ (List.mem_of_getElem? (i := 20) rfl))) (g := (mkF m 52 #[.val (.long k), .second, .val (.long (own_mix k)), .second, .val (.long ((own_mix k) * (own_inv (2147483649 : Int64)))), .second, .val (.long ((((own_mix k) * (own_inv (2147483649 : Int64))) ^^^ ((((own_mix k) * (own_inv (2147483649 : Int64))).toUInt64 >>> ((28 : Int32) &&& 0x3f).toInt64.toUInt64).toInt64)) ^^^ ((((own_mix k) * (own_inv (2147483649 : Int64))).toUInt64 >>> ((56 : Int32) &&& 0x3f).toInt64.toUInt64).toInt64))), .second] [(.long ((((own_mix k) * (own_inv (2147483649 : Int64))) ^^^ ((((own_mix k) * (own_inv (2147483649 : Int64))).toUInt64 >>> ((28 : Int32) &&& 0x3f).toInt64.toUInt64).toInt64)) ^^^ ((((own_mix k) * (own_inv (2147483649 : Int64))).toUInt64 >>> ((56 : Int32) &&& 0x3f).toInt64.toUInt64).toInt64))), (.long k)])) rfl (hb hby at_52) _ kt) ?_
      show Go p e below _ (T4.setTop (mkF m 55 #[.val (.long k), .second, .val (.long (own_mix k)), .second, .val (.long ((own_mix k) * (own_inv (2147483649 : Int64)))), .second, .val (.long ((((own_mix k) * (own_inv (2147483649 : Int64))) ^^^ ((((own_mix k) * (own_inv (2147483649 : Int64))).toUInt64 >>> ((28 : Int32) &&& 0x3f).toInt64.toUInt64).toInt64)) ^^^ ((((own_mix k) * (own_inv (2147483649 : Int64))).toUInt64 >>> ((56 : Int32) &&& 0x3f).toInt64.toUInt64).toInt64))), .second] [(.long (-1 : Int64)), (.long ((((own_mix k) * (own_inv (2147483649 : Int64))) ^^^ ((((own_mix k) * (own_inv (2147483649 : Int64))).toUInt64 >>> ((28 : Int32) &&& 0x3f).toInt64.toUInt64).toInt64)) ^^^ ((((own_mix k) * (own_inv (2147483649 : Int64))).toUInt64 >>> ((56 : Int32) &&& 0x3f).toInt64.toUInt64).toInt64))), (.long k)]))
      refine Go.st (fun _ kt => XS.lxor X4.here hx rfl (hb hby at_55) rfl kt) ?_
      show Go p e below _ (T4.setTop (mkF m 56 #[.val (.long k), .second, .val (.long (own_mix k)), .second, .val (.long ((own_mix k) * (own_inv (2147483649 : Int64)))), .second, .val (.long ((((own_mix k) * (own_inv (2147483649 : Int64))) ^^^ ((((own_mix k) * (own_inv (2147483649 : Int64))).toUInt64 >>> ((28 : Int32) &&& 0x3f).toInt64.toUInt64).toInt64)) ^^^ ((((own_mix k) * (own_inv (2147483649 : Int64))).toUInt64 >>> ((56 : Int32) &&& 0x3f).toInt64.toUInt64).toInt64))), .second] [(.long (((((own_mix k) * (own_inv (2147483649 : Int64))) ^^^ ((((own_mix k) * (own_inv (2147483649 : Int64))).toUInt64 >>> ((28 : Int32) &&& 0x3f).toInt64.toUInt64).toInt64)) ^^^ ((((own_mix k) * (own_inv (2147483649 : Int64))).toUInt64 >>> ((56 : Int32) &&& 0x3f).toInt64.toUInt64).toInt64)) ^^^ (-1 : Int64))), (.long k)]))
      obtain ⟨_, _, ⟨T6, L6, k6, n6⟩, -, X6, ⟨Lc6, hQ6, l6, y6, z6⟩, st6⟩ := Jvm.LawKit.callS X4 hx (y := (⟨"com/example/rowsieve/rowsieve/kind/bloom/ValueHashMixPinLaw", "fromH5", "(JJ)Z"⟩ : MethodName)) hown (mvT hZ (hw _ (List.mem_of_getElem? (i := 11) rfl))) (mvT hZ (hw _ (List.mem_of_getElem? (i := 12) rfl))) (mvT hZ (hw _ (List.mem_of_getElem? (i := 8) rfl))) (mvT hZ (hw _ (List.mem_of_getElem? (i := 13) rfl))) (by decide) (backOf (W := 0) (rm3 l Z a0 hw [] k (((((own_mix k) * (own_inv (2147483649 : Int64))) ^^^ ((((own_mix k) * (own_inv (2147483649 : Int64))).toUInt64 >>> ((28 : Int32) &&& 0x3f).toInt64.toUInt64).toInt64)) ^^^ ((((own_mix k) * (own_inv (2147483649 : Int64))).toUInt64 >>> ((56 : Int32) &&& 0x3f).toInt64.toUInt64).toInt64)) ^^^ (-1 : Int64)) h0 n0 Z0) hZ (hw _ (List.mem_of_getElem? (i := 13) rfl)) (hw _ (List.mem_of_getElem? (i := 8) rfl)) (by decide) (by decide)) (g := (mkF m 56 #[.val (.long k), .second, .val (.long (own_mix k)), .second, .val (.long ((own_mix k) * (own_inv (2147483649 : Int64)))), .second, .val (.long ((((own_mix k) * (own_inv (2147483649 : Int64))) ^^^ ((((own_mix k) * (own_inv (2147483649 : Int64))).toUInt64 >>> ((28 : Int32) &&& 0x3f).toInt64.toUInt64).toInt64)) ^^^ ((((own_mix k) * (own_inv (2147483649 : Int64))).toUInt64 >>> ((56 : Int32) &&& 0x3f).toInt64.toUInt64).toInt64))), .second] [(.long (((((own_mix k) * (own_inv (2147483649 : Int64))) ^^^ ((((own_mix k) * (own_inv (2147483649 : Int64))).toUInt64 >>> ((28 : Int32) &&& 0x3f).toInt64.toUInt64).toInt64)) ^^^ ((((own_mix k) * (own_inv (2147483649 : Int64))).toUInt64 >>> ((56 : Int32) &&& 0x3f).toInt64.toUInt64).toInt64)) ^^^ (-1 : Int64))), (.long k)])) rfl (by rw [hml]; rfl) (argsL := [(.long k), (.long (((((own_mix k) * (own_inv (2147483649 : Int64))) ^^^ ((((own_mix k) * (own_inv (2147483649 : Int64))).toUInt64 >>> ((28 : Int32) &&& 0x3f).toInt64.toUInt64).toInt64)) ^^^ ((((own_mix k) * (own_inv (2147483649 : Int64))).toUInt64 >>> ((56 : Int32) &&& 0x3f).toInt64.toUInt64).toInt64)) ^^^ (-1 : Int64)))]) (rest := []) (lenOf own_pd3 rfl) rfl (by show 2 * 0 + _ ≤ _; exact Nat.le_of_eq rfl) (hb hby at_56) (fun _ _ => ⟨rfl, e4, (by decide : 0 + 0 ≤ _), (by decide : 0 + 0 ≤ _)⟩)
      dsimp only [Pt.U, Pt.locs, Pt.cells, Pt.slots] at X6 l6 y6 z6 st6 hQ6
      subst l6 y6 z6
      obtain ⟨z6, rfl, hz6, N6q, e6⟩ := hQ6
      have N6 := Fr.app N4 N6q
      refine Go.st st6 ?_
      show Go p e below _ (T6.setTop (mkF m 59 #[.val (.long k), .second, .val (.long (own_mix k)), .second, .val (.long ((own_mix k) * (own_inv (2147483649 : Int64)))), .second, .val (.long ((((own_mix k) * (own_inv (2147483649 : Int64))) ^^^ ((((own_mix k) * (own_inv (2147483649 : Int64))).toUInt64 >>> ((28 : Int32) &&& 0x3f).toInt64.toUInt64).toInt64)) ^^^ ((((own_mix k) * (own_inv (2147483649 : Int64))).toUInt64 >>> ((56 : Int32) &&& 0x3f).toInt64.toUInt64).toInt64))), .second] [(.int z6)]))
      by_cases hc59_7 : z6 = (0 : Int32)
      · refine Go.st (fun _ kt => XS.ifYes X6.here hx rfl (pc0 := 59) (pc' := 66) rfl (hb hby at_59) rfl ((if0 _ _).trans (teq hc59_7).1) (by decide) (by decide) kt) ?_
        show Go p e below _ (T6.setTop (mkF m 66 #[.val (.long k), .second, .val (.long (own_mix k)), .second, .val (.long ((own_mix k) * (own_inv (2147483649 : Int64)))), .second, .val (.long ((((own_mix k) * (own_inv (2147483649 : Int64))) ^^^ ((((own_mix k) * (own_inv (2147483649 : Int64))).toUInt64 >>> ((28 : Int32) &&& 0x3f).toInt64.toUInt64).toInt64)) ^^^ ((((own_mix k) * (own_inv (2147483649 : Int64))).toUInt64 >>> ((56 : Int32) &&& 0x3f).toInt64.toUInt64).toInt64))), .second] []))
        refine Go.st (fun _ kt => XS.iconst X6.here hx rfl (hb hby at_66) kt) ?_
        show Go p e below _ (T6.setTop (mkF m 67 #[.val (.long k), .second, .val (.long (own_mix k)), .second, .val (.long ((own_mix k) * (own_inv (2147483649 : Int64)))), .second, .val (.long ((((own_mix k) * (own_inv (2147483649 : Int64))) ^^^ ((((own_mix k) * (own_inv (2147483649 : Int64))).toUInt64 >>> ((28 : Int32) &&& 0x3f).toInt64.toUInt64).toInt64)) ^^^ ((((own_mix k) * (own_inv (2147483649 : Int64))).toUInt64 >>> ((56 : Int32) &&& 0x3f).toInt64.toUInt64).toInt64))), .second] [(.int (0 : Int32))]))
        refine Go.retN X6 hx (t := .boolean) Bd.returns (by simp) (BodyLoose.notSynchronized Bd) (hb hby at_67) (Q := (Q_rm0 Z k h0 n0)) (by decide) (by decide) ?_
        show (Q_rm0 Z k h0 n0) _ T6.heap _
        rw [e6]
        exact absurd (own_law k) (by simp only [own_B, lw_lt, lw_eq, own_p, own_su] at *; simp_all)
      · refine Go.st (fun _ kt => XS.ifNo X6.here hx rfl (hb hby at_59) rfl ((if0 _ _).trans (feq hc59_7).1) kt) ?_
        show Go p e below _ (T6.setTop (mkF m 62 #[.val (.long k), .second, .val (.long (own_mix k)), .second, .val (.long ((own_mix k) * (own_inv (2147483649 : Int64)))), .second, .val (.long ((((own_mix k) * (own_inv (2147483649 : Int64))) ^^^ ((((own_mix k) * (own_inv (2147483649 : Int64))).toUInt64 >>> ((28 : Int32) &&& 0x3f).toInt64.toUInt64).toInt64)) ^^^ ((((own_mix k) * (own_inv (2147483649 : Int64))).toUInt64 >>> ((56 : Int32) &&& 0x3f).toInt64.toUInt64).toInt64))), .second] []))
        refine Go.st (fun _ kt => XS.iconst X6.here hx rfl (hb hby at_62) kt) ?_
        show Go p e below _ (T6.setTop (mkF m 63 #[.val (.long k), .second, .val (.long (own_mix k)), .second, .val (.long ((own_mix k) * (own_inv (2147483649 : Int64)))), .second, .val (.long ((((own_mix k) * (own_inv (2147483649 : Int64))) ^^^ ((((own_mix k) * (own_inv (2147483649 : Int64))).toUInt64 >>> ((28 : Int32) &&& 0x3f).toInt64.toUInt64).toInt64)) ^^^ ((((own_mix k) * (own_inv (2147483649 : Int64))).toUInt64 >>> ((56 : Int32) &&& 0x3f).toInt64.toUInt64).toInt64))), .second] [(.int (1 : Int32))]))
        refine Go.st (fun _ kt => XS.goto X6.here hx rfl (pc0 := 63) (pc' := 67) rfl (hb hby at_63) (by decide) (by decide) kt) ?_
        show Go p e below _ (T6.setTop (mkF m 67 #[.val (.long k), .second, .val (.long (own_mix k)), .second, .val (.long ((own_mix k) * (own_inv (2147483649 : Int64)))), .second, .val (.long ((((own_mix k) * (own_inv (2147483649 : Int64))) ^^^ ((((own_mix k) * (own_inv (2147483649 : Int64))).toUInt64 >>> ((28 : Int32) &&& 0x3f).toInt64.toUInt64).toInt64)) ^^^ ((((own_mix k) * (own_inv (2147483649 : Int64))).toUInt64 >>> ((56 : Int32) &&& 0x3f).toInt64.toUInt64).toInt64))), .second] [(.int (1 : Int32))]))
        refine Go.retN X6 hx (t := .boolean) Bd.returns (by simp) (BodyLoose.notSynchronized Bd) (hb hby at_67) (Q := (Q_rm0 Z k h0 n0)) (by decide) (by decide) ?_
        show (Q_rm0 Z k h0 n0) _ T6.heap _
        rw [e6]
        exact ⟨rfl, N6⟩
    · refine Go.st (fun _ kt => XS.ifYes X4.here hx rfl (pc0 := 46) (pc' := 62) rfl (hb hby at_46) rfl ((if0 _ _).trans (feq hc46_5).2) (by decide) (by decide) kt) ?_
      show Go p e below _ (T4.setTop (mkF m 62 #[.val (.long k), .second, .val (.long (own_mix k)), .second, .val (.long ((own_mix k) * (own_inv (2147483649 : Int64)))), .second, .val (.long ((((own_mix k) * (own_inv (2147483649 : Int64))) ^^^ ((((own_mix k) * (own_inv (2147483649 : Int64))).toUInt64 >>> ((28 : Int32) &&& 0x3f).toInt64.toUInt64).toInt64)) ^^^ ((((own_mix k) * (own_inv (2147483649 : Int64))).toUInt64 >>> ((56 : Int32) &&& 0x3f).toInt64.toUInt64).toInt64))), .second] []))
      refine Go.st (fun _ kt => XS.iconst X4.here hx rfl (hb hby at_62) kt) ?_
      show Go p e below _ (T4.setTop (mkF m 63 #[.val (.long k), .second, .val (.long (own_mix k)), .second, .val (.long ((own_mix k) * (own_inv (2147483649 : Int64)))), .second, .val (.long ((((own_mix k) * (own_inv (2147483649 : Int64))) ^^^ ((((own_mix k) * (own_inv (2147483649 : Int64))).toUInt64 >>> ((28 : Int32) &&& 0x3f).toInt64.toUInt64).toInt64)) ^^^ ((((own_mix k) * (own_inv (2147483649 : Int64))).toUInt64 >>> ((56 : Int32) &&& 0x3f).toInt64.toUInt64).toInt64))), .second] [(.int (1 : Int32))]))
      refine Go.st (fun _ kt => XS.goto X4.here hx rfl (pc0 := 63) (pc' := 67) rfl (hb hby at_63) (by decide) (by decide) kt) ?_
      show Go p e below _ (T4.setTop (mkF m 67 #[.val (.long k), .second, .val (.long (own_mix k)), .second, .val (.long ((own_mix k) * (own_inv (2147483649 : Int64)))), .second, .val (.long ((((own_mix k) * (own_inv (2147483649 : Int64))) ^^^ ((((own_mix k) * (own_inv (2147483649 : Int64))).toUInt64 >>> ((28 : Int32) &&& 0x3f).toInt64.toUInt64).toInt64)) ^^^ ((((own_mix k) * (own_inv (2147483649 : Int64))).toUInt64 >>> ((56 : Int32) &&& 0x3f).toInt64.toUInt64).toInt64))), .second] [(.int (1 : Int32))]))
      refine Go.retN X4 hx (t := .boolean) Bd.returns (by simp) (BodyLoose.notSynchronized Bd) (hb hby at_67) (Q := (Q_rm0 Z k h0 n0)) (by decide) (by decide) ?_
      show (Q_rm0 Z k h0 n0) _ T4.heap _
      rw [e4]
      exact ⟨rfl, N4⟩
set_option maxRecDepth 65536 in
set_option maxHeartbeats 40000000 in
theorem comes_1 {Post : Tables → Env → Array Value → State → Outcome → State → Prop} (hpost : ∀ tb e args s v u, (limb_1_1.after args s (.returned v) u = true ∧ limb_1_2.after args s (.returned v) u = true ∧ True) → FrameEnd s (.returned v) u (Jvm.fieldLocs frame_1_writes args s ++ Jvm.arrayLocs frame_1_arrays args s ++ Jvm.staticLocs frame_1_statics s) 0 0 → Post tb e args s (.returned v) u) :
    ArmFor flags0 classFile x code maxLocals ret World_1 tables_1 room_1 Calls_1 rest_1 Pre_1 Post := by
  intro l hfl _ _ p e ha hc hk s m args below hf hA hF happ hP
  obtain ⟨hcalls, hrest, hpre⟩ := hP
  obtain ⟨-, -, -, hnamed, -, -, -, hat⟩ := (Spec.applies_iff hf).mp happ
  obtain ⟨hg, hn⟩ := and_e (Cond.before_iff.mp (show (Jvm.Cond.and given_1 narrow_1).before args s = true from hpre))
  obtain ⟨g1, g2⟩ := and_e hg
  obtain ⟨w0, rfl⟩ : ∃ w0 : Value, args = #[w0] := by
    have hs : args.size = 1 := by simpa [Cond.value, given_1] using g1
    obtain ⟨L⟩ := args
    match L, hs with
    | [w0], _ => exact ⟨w0, rfl⟩
  have hw := fun d (hd : d ∈ tables_1) => atoms_spec (ws := Jvm.Cond.code x code maxLocals ret :: tables_1) hat d (List.mem_cons_of_mem _ hd)
  have hfit : Fit s := fun {y c} hc i hi => by
    obtain ⟨ha, rfl⟩ := Array.getElem?_eq_some_iff.mp hc
    have q := List.all_eq_true.mp ((Array.all_eq_true_iff_forall_mem.mp hF) _ (Array.getElem_mem ha)) i (List.mem_range.mpr hi)
    simpa [Array.getElem?_eq_getElem hi] using q
  obtain ⟨i0, ei0⟩ := isL_v g2
  obtain rfl : w0 = (.long i0) := Option.some.inj ei0
  obtain ⟨n, o, h1, h2, h3, _, L, rfl, ⟨rfl, N⟩, hq⟩ := rm0 l s _ hw tables_1 i0 s.heap s.heap.size (Nat.le_refl _) p e ha hc hk s m _ below hf ((Spec.applies_iff_loose hf).mp happ).1 ⟨rfl, State.Warmed39.refl s, rfl⟩ trivial
  refine ⟨n, _, h1, h2, h3, hpost _ _ _ _ _ _ ⟨Cond.after_iff.mpr rfl, Cond.after_iff.mpr (eq_i res_at (Term.int_eval (1)) rfl), trivial⟩ ⟨hq.1, hq.2.1, (hq.2.2.sift fun y hy => Or.inr (N y hy)).mono (by decide) (by decide)⟩⟩
theorem main_1_1 : Claimed_1_1 := comes_1 fun _ _ _ _ _ _ h hF => ⟨h.1, hF⟩
theorem main_1_2 : Claimed_1_2 := comes_1 fun _ _ _ _ _ _ h hF => ⟨h.2.1, hF⟩
end Jvm.Pilot.@@N@@
namespace Jvm.Pilot.@@N@@
open Jvm Jvm.ClassFile Sem Op Lib Jvm.Free Jvm.Stand Jvm.Pilot.@@N@@.Jvm.D
/-! MADE BY PROGRAM (witnessworld.py) out of the Statement's table words and the real class files: 9 classes; the members and pool entries that the words name. The judged class is class 1, her method 1. -/
namespace start1
open Jvm.ClassFile
def u (s : String) : CpInfo := .utf8 (stringToUtf16 s)
/-- a pool by its gaps: so many unusable entries, then the entry; so many at the end -/
def gap : Nat → List CpInfo → List CpInfo
  | 0, r => r
  | n + 1, r => .unusable :: gap n r
def poolList (es : List (Nat × CpInfo)) (last : Nat) : List CpInfo := es.foldr (fun e r => gap e.1 (e.2 :: r)) (gap last [])
def pool (es : List (Nat × CpInfo)) (last : Nat) : Array CpInfo := ⟨poolList es last⟩
def fileOf (pool : Array CpInfo) (this : Nat) (attrs : Array Attribute := #[]) (ms : Array MethodInfo := #[]) (fl : Nat := 33) (sup : Nat := 0) (ifs : Array Nat := #[]) (fds : Array FieldInfo := #[]) : ClassFile where
  minorVersion := 0
  majorVersion := 65
  constantPool := pool
  accessFlags := fl
  thisClass := this
  superClass := sup
  interfaces := ifs
  fields := fds
  methods := ms
  attributes := attrs
def plain (name : String) (sup : Option ClassId) : Class where
  name := name
  kind := .ordinary
  loader := none
  accessFlags := 33
  super := sup
  interfaces := #[]
  cf := none
  fields := #[]
  methods := #[]
  instanceTypes := #[]
  staticTypes := #[]
  resolved := #[]
  callSites := []
  init := .initialized
  statics := none
  mirror := none

def pool0 : Array CpInfo := pool [(5, u "<init>"), (0, u "()V"), (1, .class_ 10), (1, u "java/lang/Object")] 113

def k0m0 : Method := { name := "<init>", desc := "()V", sig := { parameters := [], returnType := none }, accessFlags := 1, code := none }
/-- java/lang/Object -/
def k0 : Class := { plain "java/lang/Object" none with
  accessFlags := 33
  interfaces := #[]
  cf := some (fileOf pool0 8 #[] #[{ accessFlags := 1, nameIndex := 5, descriptorIndex := 6, attributes := #[] }] 33 0 #[] #[])
  fields := #[]
  methods := #[k0m0]
  instanceTypes := #[]
  staticTypes := #[]
  resolved := Array.replicate 124 none
  statics := none }

def pool1 : Array CpInfo := pool [(2, .class_ 4), (1, u "java/lang/Object"), (0, u "<init>"), (0, u "()V"), (0, .methodref 8 9), (0, .class_ 10), (0, .nameAndType 11 12), (0, u "com/example/rowsieve/rowsieve/kind/bloom/ValueHash"), (0, u "mix"), (0, u "(J)J"), (0, .long 2147483649), (1, .methodref 16 17), (0, .class_ 18), (0, .nameAndType 19 12), (0, u "com/example/rowsieve/rowsieve/kind/bloom/ValueHashMixPinLaw"), (0, u "inverse"), (0, .methodref 16 21), (0, .nameAndType 22 23), (0, u "fromH5"), (0, u "(JJ)Z"), (0, .long 18446744073709551615), (1, .long 21), (1, .methodref 16 29), (0, .nameAndType 30 23), (0, u "fromH3"), (0, .long 265), (1, .long 2097151), (1, .long 2), (3, u "law"), (0, u "(J)Z")] 3

def k1m0 : Method := { name := "<init>", desc := "()V", sig := { parameters := [], returnType := none }, accessFlags := 2, code := none }
def k1c1 : Code := { maxStack := 6, maxLocals := 8, code := code, exceptionTable := #[], attributes := #[] }
def k1m1 : Method := { name := "law", desc := "(J)Z", sig := { parameters := [.long], returnType := some .boolean }, accessFlags := 9, code := some k1c1 }
def k1c2 : Code := { maxStack := 6, maxLocals := 8, code := method_3_code, exceptionTable := #[], attributes := #[] }
def k1m2 : Method := { name := "fromH5", desc := "(JJ)Z", sig := { parameters := [.long, .long], returnType := some .boolean }, accessFlags := 10, code := some k1c2 }
def k1c3 : Code := { maxStack := 5, maxLocals := 10, code := method_4_code, exceptionTable := #[], attributes := #[] }
def k1m3 : Method := { name := "fromH3", desc := "(JJ)Z", sig := { parameters := [.long, .long], returnType := some .boolean }, accessFlags := 10, code := some k1c3 }
def k1c4 : Code := { maxStack := 8, maxLocals := 4, code := method_5_code, exceptionTable := #[], attributes := #[] }
def k1m4 : Method := { name := "inverse", desc := "(J)J", sig := { parameters := [.long], returnType := some .long }, accessFlags := 10, code := some k1c4 }
/-- com/example/rowsieve/rowsieve/kind/bloom/ValueHashMixPinLaw -/
def k1 : Class := { plain "com/example/rowsieve/rowsieve/kind/bloom/ValueHashMixPinLaw" (some 0) with
  accessFlags := 49
  interfaces := #[]
  cf := some (fileOf pool1 16 #[] #[{ accessFlags := 2, nameIndex := 5, descriptorIndex := 6, attributes := #[] }, { accessFlags := 9, nameIndex := 39, descriptorIndex := 40, attributes := #[] }, { accessFlags := 10, nameIndex := 22, descriptorIndex := 23, attributes := #[] }, { accessFlags := 10, nameIndex := 30, descriptorIndex := 23, attributes := #[] }, { accessFlags := 10, nameIndex := 19, descriptorIndex := 12, attributes := #[] }] 49 2 #[] #[])
  fields := #[]
  methods := #[k1m0, k1m1, k1m2, k1m3, k1m4]
  instanceTypes := #[]
  staticTypes := #[]
  resolved := Array.replicate 44 none
  statics := none }

def pool2 : Array CpInfo := pool [(2, .class_ 4), (1, u "java/lang/Object"), (0, u "<init>"), (0, u "()V"), (11, .class_ 20), (1, u "com/example/rowsieve/rowsieve/kind/bloom/ValueHash"), (57, u "mix"), (0, u "(J)J"), (5, .long 18446744073709551615)] 23

def k2m0 : Method := { name := "<init>", desc := "()V", sig := { parameters := [], returnType := none }, accessFlags := 2, code := none }
def k2c1 : Code := { maxStack := 5, maxLocals := 4, code := prog_47_method_5_code, exceptionTable := #[], attributes := #[] }
def k2m1 : Method := { name := "mix", desc := "(J)J", sig := { parameters := [.long], returnType := some .long }, accessFlags := 8, code := some k2c1 }
/-- com/example/rowsieve/rowsieve/kind/bloom/ValueHash -/
def k2 : Class := { plain "com/example/rowsieve/rowsieve/kind/bloom/ValueHash" (some 0) with
  accessFlags := 48
  interfaces := #[]
  cf := some (fileOf pool2 18 #[] #[{ accessFlags := 2, nameIndex := 5, descriptorIndex := 6, attributes := #[] }, { accessFlags := 8, nameIndex := 78, descriptorIndex := 79, attributes := #[] }] 48 2 #[] #[])
  fields := #[]
  methods := #[k2m0, k2m1]
  instanceTypes := #[]
  staticTypes := #[]
  resolved := Array.replicate 109 none
  statics := none }

def pool3 : Array CpInfo := pool [(1, u "java/lang/Cloneable"), (0, .class_ 1), (0, u "java/lang/Object"), (0, .class_ 3)] 3

/-- java/lang/Cloneable -/
def k3 : Class := { plain "java/lang/Cloneable" (some 0) with
  accessFlags := 1537
  interfaces := #[]
  cf := some (fileOf pool3 2 #[] #[] 1537 4 #[] #[])
  fields := #[]
  methods := #[]
  instanceTypes := #[]
  staticTypes := #[]
  resolved := Array.replicate 8 none
  statics := none }

def pool4 : Array CpInfo := pool [(1, u "java/io/Serializable"), (0, .class_ 1), (0, u "java/lang/Object"), (0, .class_ 3)] 3

/-- java/io/Serializable -/
def k4 : Class := { plain "java/io/Serializable" (some 0) with
  accessFlags := 1537
  interfaces := #[]
  cf := some (fileOf pool4 2 #[] #[] 1537 4 #[] #[])
  fields := #[]
  methods := #[]
  instanceTypes := #[]
  staticTypes := #[]
  resolved := Array.replicate 8 none
  statics := none }

/-- the primitive byte -/
def k5 : Class := { plain "byte" none with kind := .primitive 'B', accessFlags := 0x411 }
/-- [B -/
def k6 : Class := { plain "[B" (some 0) with kind := .array 5 .byte, interfaces := #[3, 4], accessFlags := 1041 }

/-- the primitive int -/
def k7 : Class := { plain "int" none with kind := .primitive 'I', accessFlags := 0x411 }
/-- [I -/
def k8 : Class := { plain "[I" (some 0) with kind := .array 7 .int, interfaces := #[3, 4], accessFlags := 1041 }

def heap : Heap := #[]
def classes : Array Class := #[k0, k1, k2, k3, k4, k5, k6, k7, k8]
def interned : List (Array UInt16 × Addr) := []
def slotsUsed : Nat := 0
def theMethod : MethodId := ⟨1, 1⟩
def args0 : Array Value := #[.long 5]
def aboutOver (below : List Frame) : State where
  vm := { classes := classes, interned := interned.toArray }
  heap := heap
  slotsUsed := slotsUsed
  threads := #[{ frames := .invoking theMethod args0 :: below }]
def below0 : List Frame := [.native { method := ⟨0, 0⟩, args := #[] }]
def about1 : State := aboutOver below0
def p0 : Program := .bare "" "" ""
def e0 : Env := launch0.env 0 0 0
theorem w_frames : about1.frames = Frame.invoking theMethod args0 :: below0 := rfl
set_option maxRecDepth 65536 in
theorem w_args : argsFit about1.vm theMethod args0 = true := by decide +kernel
set_option maxRecDepth 65536 in
theorem w_heap : heapFits about1 = true := by decide +kernel
set_option maxRecDepth 65536 in
theorem w_runnable : about1.curStatus? = some .runnable := by decide +kernel
set_option maxRecDepth 65536 in
theorem w_alone : about1.alone = true := by decide +kernel
set_option maxRecDepth 65536 in
theorem w_named : about1.methodNamed? x = some theMethod := by decide +kernel
set_option maxRecDepth 65536 in
theorem w_hears : about1.hears theMethod below0 = true := by decide +kernel
set_option maxRecDepth 65536 in
theorem w_ripe : about1.ripe theMethod args0 below0 = true := by decide +kernel
theorem w_running : about1.status = .running := rfl
set_option maxRecDepth 65536 in
theorem w_room : about1.hasRoom e0.platform room_1 = true :=
  launch0.hasRoom_least _ room_1 (by decide +kernel) (by decide +kernel) (by decide +kernel) (by decide +kernel) (by decide +kernel) (by decide +kernel)
theorem allAtoms_all (ts : List Jvm.Cond) (a : Array Jvm.Value) (st : Jvm.State) : (allAtoms ts).before a st = ts.all (fun c => c.before a st) := by
  induction ts with
  | nil => rfl
  | cons c t ih =>
    show (Jvm.Cond.and c (allAtoms t)).before a st = _
    rw [Jvm.Cond.before_and, ih, List.all_cons]
def words1 : List Jvm.Cond := Jvm.Cond.code x code maxLocals ret :: tables_1
/-- a 'code' word, met by the world's own term for the bytes: nothing is compared byte by byte -/
theorem code_word {y : MethodName} {bytes : ByteArray} {mx : Nat} {rt : Option FieldType} {a : Array Value} {s : State} {m : MethodId} {meth : Method} {c : Code} (h1 : s.methodNamed? y = some m) (h2 : s.vm.method? m = some meth) (h3 : meth.code = some c) (h4 : c.code = bytes)
    (h5 : (c.maxLocals == mx && c.exceptionTable.isEmpty && decide (c.maxStack ≤ mostOperands) && decide (meth.sig.returnType = rt) && !meth.locks && decide (parseMethodDescriptor y.desc = some meth.sig)) = true) : (Jvm.Cond.code y bytes mx rt).before a s = true := by
  simp only [Bool.and_eq_true, beq_iff_eq, Bool.not_eq_true', decide_eq_true_eq] at h5
  obtain ⟨⟨⟨⟨⟨g1, g2⟩, g3⟩, g4⟩, g5⟩, g6⟩ := h5
  simp [Cond.before, Cond.holds, Cond.value, h1, h2, h3, h4, g1, g2, g3, g4, g5, g6]
def isCode : Jvm.Cond → Bool
  | .code _ _ _ _ => true
  | _ => false
theorem all_split {L : List Jvm.Cond} {P : Jvm.Cond → Bool} (h1 : L.all (fun c => isCode c || P c) = true) (h2 : ∀ c ∈ L.filter isCode, P c = true) : L.all P = true := by
  refine List.all_eq_true.mpr fun c hc => ?_
  have h := List.all_eq_true.mp h1 c hc
  rcases Bool.eq_false_or_eq_true (isCode c) with hi | hi
  · exact h2 c (List.mem_filter.mpr ⟨hc, hi⟩)
  · simpa [hi] using h
set_option maxRecDepth 65536 in
theorem w_c0 : (Jvm.Cond.code x code maxLocals ret).before args0 about1 = true := code_word (m := ⟨1, 1⟩) (meth := k1m1) (c := k1c1) (by decide +kernel) rfl rfl rfl (by decide +kernel)
set_option maxRecDepth 65536 in
theorem w_c1 : (Jvm.Cond.code ({ cls := "com/example/rowsieve/rowsieve/kind/bloom/ValueHash", name := "mix", desc := "(J)J" } : Jvm.MethodName) prog_47_method_5_code (4 : Nat) (Option.some Jvm.ClassFile.FieldType.long)).before args0 about1 = true := code_word (m := ⟨2, 1⟩) (meth := k2m1) (c := k2c1) (by decide +kernel) rfl rfl rfl (by decide +kernel)
set_option maxRecDepth 65536 in
theorem w_c2 : (Jvm.Cond.code ({ cls := "com/example/rowsieve/rowsieve/kind/bloom/ValueHashMixPinLaw", name := "inverse", desc := "(J)J" } : Jvm.MethodName) method_5_code (4 : Nat) (Option.some Jvm.ClassFile.FieldType.long)).before args0 about1 = true := code_word (m := ⟨1, 4⟩) (meth := k1m4) (c := k1c4) (by decide +kernel) rfl rfl rfl (by decide +kernel)
set_option maxRecDepth 65536 in
theorem w_c3 : (Jvm.Cond.code ({ cls := "com/example/rowsieve/rowsieve/kind/bloom/ValueHashMixPinLaw", name := "fromH5", desc := "(JJ)Z" } : Jvm.MethodName) method_3_code (8 : Nat) (Option.some Jvm.ClassFile.FieldType.boolean)).before args0 about1 = true := code_word (m := ⟨1, 2⟩) (meth := k1m2) (c := k1c2) (by decide +kernel) rfl rfl rfl (by decide +kernel)
set_option maxRecDepth 65536 in
theorem w_c4 : (Jvm.Cond.code ({ cls := "com/example/rowsieve/rowsieve/kind/bloom/ValueHashMixPinLaw", name := "fromH3", desc := "(JJ)Z" } : Jvm.MethodName) method_4_code (10 : Nat) (Option.some Jvm.ClassFile.FieldType.boolean)).before args0 about1 = true := code_word (m := ⟨1, 3⟩) (meth := k1m3) (c := k1c3) (by decide +kernel) rfl rfl rfl (by decide +kernel)
def codes1 : List Jvm.Cond := [Jvm.Cond.code x code maxLocals ret, Jvm.Cond.code ({ cls := "com/example/rowsieve/rowsieve/kind/bloom/ValueHash", name := "mix", desc := "(J)J" } : Jvm.MethodName) prog_47_method_5_code (4 : Nat) (Option.some Jvm.ClassFile.FieldType.long), Jvm.Cond.code ({ cls := "com/example/rowsieve/rowsieve/kind/bloom/ValueHashMixPinLaw", name := "inverse", desc := "(J)J" } : Jvm.MethodName) method_5_code (4 : Nat) (Option.some Jvm.ClassFile.FieldType.long), Jvm.Cond.code ({ cls := "com/example/rowsieve/rowsieve/kind/bloom/ValueHashMixPinLaw", name := "fromH5", desc := "(JJ)Z" } : Jvm.MethodName) method_3_code (8 : Nat) (Option.some Jvm.ClassFile.FieldType.boolean), Jvm.Cond.code ({ cls := "com/example/rowsieve/rowsieve/kind/bloom/ValueHashMixPinLaw", name := "fromH3", desc := "(JJ)Z" } : Jvm.MethodName) method_4_code (10 : Nat) (Option.some Jvm.ClassFile.FieldType.boolean)]
set_option maxRecDepth 65536 in
theorem codes_eq : words1.filter isCode = codes1 := rfl
theorem w_codes : ∀ c ∈ words1.filter isCode, c.before args0 about1 = true := by
  rw [codes_eq]
  intro c hc
  simp only [codes1, List.mem_cons, List.not_mem_nil, or_false] at hc
  rcases hc with rfl | rfl | rfl | rfl | rfl
  · exact w_c0
  · exact w_c1
  · exact w_c2
  · exact w_c3
  · exact w_c4
set_option maxRecDepth 65536 in
theorem w_t1 : words1.all (fun c => isCode c || c.before args0 about1) = true := by decide +kernel
theorem w_tables : (allAtoms (Jvm.Cond.code x code maxLocals ret :: tables_1)).before args0 about1 = true := by
  rw [allAtoms_all]
  show words1.all (fun c => c.before args0 about1) = true
  refine all_split ?_ w_codes
  rw [w_t1]
set_option maxRecDepth 65536 in
theorem w_case : (Jvm.Cond.and given_1 narrow_1).before args0 about1 = true := by decide +kernel
theorem w_applies : (headSpec (Jvm.Cond.code x code maxLocals ret :: tables_1) room_1).applies x e0.platform about1 = true :=
  (Spec.applies_iff w_frames).mpr ⟨w_running, w_runnable, w_alone, w_named, w_hears, w_ripe, w_room, w_tables⟩
theorem atStart : AtStart classFile x code maxLocals ret World_1 tables_1 room_1 Calls_1 rest_1 Pre_1 launch0 p0 e0 about1 theMethod args0 below0 :=
  ⟨lists_1, trivial, launch0.admits_env _ _ _, launch0.least_env, fairChoices_fair.cas, fairChoices_fair.clock, w_frames, w_args, w_heap, w_applies, trivial, trivial, w_case⟩
end start1
theorem witness_1 : WitnessClaimed_1 := ⟨start1.p0, start1.e0, start1.about1, start1.theMethod, start1.args0, start1.below0, start1.atStart⟩
end Jvm.Pilot.@@N@@
